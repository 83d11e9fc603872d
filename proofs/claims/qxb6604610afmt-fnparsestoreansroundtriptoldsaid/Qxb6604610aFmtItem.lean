/-
  The plain layout of a StoreAns; Vector16 (45) over the inner body (47).
-/
import Derived.Test.Qxb6604610aFmtInner2
namespace Go.Proofs.Qxb6604610aFmt
open Go.RowKit Go.Extern.Stop Go.Stop Go.Extern

/-- The length of the list of replicas of the kind response at pos. -/
def m16 (zs : List Int) (pos : Nat) : Nat := lenV zs (pos + 12) 2
/-- Where the k-th kind response starts. -/
def posK (zs : List Int) : Nat → Nat
  | 0 => 2
  | k + 1 => posK zs k + 14 + m16 zs (posK zs k)
/-- A whole kind response stands at pos. -/
def ItemOK (zs : List Int) (s en pos : Nat) : Prop := pos + 14 + m16 zs pos ≤ en ∧ m16 zs pos % s = 0
/-- Where the kind response at pos breaks. -/
def ItemBad (zs : List Int) (s en pos f : Nat) : Prop :=
  (en < pos + 4 ∧ f = pos) ∨ (pos + 4 ≤ en ∧ en < pos + 12 ∧ f = pos + 4) ∨ (pos + 12 ≤ en ∧ en < pos + 14 ∧ f = pos + 12) ∨
  (pos + 14 ≤ en ∧ en < pos + 14 + m16 zs pos ∧ f = pos + 12) ∨ (pos + 14 + m16 zs pos ≤ en ∧ m16 zs pos % s ≠ 0 ∧ f = pos + 14 + m16 zs pos / s * s)
theorem item_parts (zs : List Int) (s en pos : Nat) : ItemOK zs s en pos ∨ ∃ f, ItemBad zs s en pos f := by
  by_cases h : ItemOK zs s en pos
  · exact Or.inl h
  · right
    unfold ItemOK at h
    by_cases h1 : en < pos + 4
    · exact ⟨_, Or.inl ⟨h1, rfl⟩⟩
    by_cases h2 : en < pos + 12
    · exact ⟨_, Or.inr (Or.inl ⟨by omega, h2, rfl⟩)⟩
    by_cases h3 : en < pos + 14
    · exact ⟨_, Or.inr (Or.inr (Or.inl ⟨by omega, h3, rfl⟩))⟩
    by_cases h4 : en < pos + 14 + m16 zs pos
    · exact ⟨_, Or.inr (Or.inr (Or.inr (Or.inl ⟨by omega, h4, rfl⟩)))⟩
    · exact ⟨_, Or.inr (Or.inr (Or.inr (Or.inr ⟨by omega, fun e => h ⟨by omega, e⟩, rfl⟩)))⟩
theorem m16_le {zs : List Int} (hz : Bytes zs) (pos : Nat) : m16 zs pos ≤ 65535 := (lenV_two hz (pos + 12) 2 (Nat.le_refl _)).1
/-- How many replicas. -/
def cntK (zs : List Int) (s k : Nat) : Nat := m16 zs (posK zs k) / s

theorem Frame.join {S T : Nat → Prop} {a b c : World} (h : Frame S a b) (k : Frame T b c) (hst : ∀ i, i < a.heap.size → T i → S i) : Frame S a c :=
  ⟨k.os.trans h.os, k.tape.trans h.tape, k.output.trans h.output, Nat.le_trans h.size k.size, fun i hi hp => (k.block i (Nat.lt_of_lt_of_le hi h.size) (fun ht => hp (hst i hi ht))).trans (h.block i hi hp)⟩
theorem ownsRow_base {w : World} {base base' : Nat} {e : TypeId} {size n : Nat} {v : Value} {xs : List Value} (h : w.ownsRow base e size v n xs) (hb : base' ≤ base) : w.ownsRow base' e size v n xs := by
  refine ⟨h.1, ?_⟩
  rcases h.2 with hl | ⟨g, cap, cur, rfl, hbg, rest⟩
  · exact Or.inl hl
  · exact Or.inr ⟨g, cap, cur, rfl, Nat.le_trans hb hbg, rest⟩

section
variable {R K N p G len cap : Nat} {kv gv : Value} {zs : List Int}

theorem vec47_ok (pos en s C : Nat) (w : World) (hR : w.cell? ⟨R, 0, none⟩ = some (.pointer (some ⟨p, 0, none⟩))) (hN : w.cell? ⟨N, 0, none⟩ = some (.int .i64 s))
    (h : Rd w p (.slice (some ⟨G, 0, none⟩) len cap) (pos + 12) en .nilIface) (hK : w.heap[K]? = some (.cells #[kv, gv, .slice none 0 0] 64 (0, 0))) (hRp : R ≠ p) (hRK : R ≠ K) (hNp : N ≠ p) (hNK : N ≠ K) (hKp : K ≠ p) (hGp : G ≠ p)
    (row : BRow w (some ⟨G, 0, none⟩) len zs) (hz : Bytes zs) (hs : 1 ≤ s) (hC : C * s = m16 zs pos) (hm : pos + 14 + m16 zs pos ≤ en) (hel : en ≤ len) (hlc : len ≤ cap) (hen : en ≤ 2097152) :
    Calls Tryf.prog 45 #[.pointer (some ⟨p, 0, none⟩), .func (.func 47) #[] #[.pointer (some ⟨R, 0, none⟩), .pointer (some ⟨K, 0, none⟩), .pointer (some ⟨N, 0, none⟩)]] w fun e w' => e = .returned (.tuple #[]) ∧
      ∃ rv, Rd w' p (.slice (some ⟨G, 0, none⟩) len cap) (pos + 14 + m16 zs pos) en .nilIface ∧ w'.heap[K]? = some (.cells #[kv, gv, rv] 64 (0, 0)) ∧ w'.ownsRow w.heap.size 22 1 rv C (repCells G (pos + 14) s C) ∧ Frame (fun k => k = p ∨ k = K) w w' := by
  have hpw := h.lt
  have hm16 : lenV zs (pos + 12) 2 = m16 zs pos := rfl
  have hV := vector16_any p 47 #[.pointer (some ⟨R, 0, none⟩), .pointer (some ⟨K, 0, none⟩), .pointer (some ⟨N, 0, none⟩)] w _
    (vector_ok p (pos + 12) en 2 47 G len cap #[.pointer (some ⟨R, 0, none⟩), .pointer (some ⟨K, 0, none⟩), .pointer (some ⟨N, 0, none⟩)] zs w
      (fun w2 => ∃ rv, Inv47 p K G len cap (pos + 14) (pos + 14 + m16 zs pos) s kv gv w w2 C rv)
      h hGp row hz hel hlc hen (by omega) (Nat.le_refl _) (by rw [hm16]; omega) enters47
      (fun w1 hr1 ho1 => by
        rw [hm16, show pos + 12 + 2 = pos + 14 by omega] at hr1
        have hF : Frame (fun k => k = p) w w1 := Frame.of_only ho1 rfl
        refine (body47_ok R K N p G len cap (pos + 14) (pos + 14 + m16 zs pos) s C kv gv w1 (hF.cell hR hRp) (hF.cell hN hNp) hr1 (hF.heap hK hKp) hRp hRK hNp hNK hKp hs (by omega) (by omega) hlc (by omega)).mono ?_
        rintro e w' ⟨rfl, rv, i1, i2, i3, i4⟩
        exact ⟨rfl, rv, i1, i2, ownsRow_base i3 ho1.size, (Frame.of_only ho1 (Or.inl rfl)).trans i4⟩)
      (fun w2 ⟨rv, h2⟩ => ⟨_, _, by rw [hm16, show pos + 12 + 2 = pos + 14 by omega]; exact h2.1, Or.inl ⟨rfl, by rw [hm16]; omega⟩⟩))
  refine hV.mono ?_
  rintro e w' ⟨rfl, w2, q, ⟨rv, i1, i2, i3, i4⟩, rfl⟩
  rw [hC] at i1
  refine ⟨rfl, rv, (show Rd (w2.setCell ⟨p, 2, none⟩ (.int .i64 en)) p _ _ en .nilIface from i1.set 2 _).drewN q, (Below.heap_setCell w2 ⟨p, 2, none⟩ _ K hKp).trans i2, ?_, (i4.setCell (Or.inl (Or.inl rfl)) _ _).drewN q⟩
  exact ownsRow_setCell_below i3 (a := ⟨p, 2, none⟩) hpw _

/-- What stands behind a fault. -/
theorem vec47_bad (pos en s f : Nat) (w : World) (hR : w.cell? ⟨R, 0, none⟩ = some (.pointer (some ⟨p, 0, none⟩))) (hN : w.cell? ⟨N, 0, none⟩ = some (.int .i64 s))
    (h : Rd w p (.slice (some ⟨G, 0, none⟩) len cap) (pos + 12) en .nilIface) (hK : w.heap[K]? = some (.cells #[kv, gv, .slice none 0 0] 64 (0, 0))) (hRp : R ≠ p) (hRK : R ≠ K) (hNp : N ≠ p) (hNK : N ≠ K) (hKp : K ≠ p) (hGp : G ≠ p)
    (row : BRow w (some ⟨G, 0, none⟩) len zs) (hz : Bytes zs) (hs : 1 ≤ s) (hb : ItemBad zs s en pos f) (h12 : pos + 12 ≤ en) (hel : en ≤ len) (hlc : len ≤ cap) (hen : en ≤ 2097152) :
    Calls Tryf.prog 45 #[.pointer (some ⟨p, 0, none⟩), .func (.func 47) #[] #[.pointer (some ⟨R, 0, none⟩), .pointer (some ⟨K, 0, none⟩), .pointer (some ⟨N, 0, none⟩)]] w fun e w' => e = .returned (.tuple #[]) ∧
      Flt47 p K en f (.slice (some ⟨G, 0, none⟩) len cap) kv gv w w' := by
  have hpw := h.lt
  have hm16 : lenV zs (pos + 12) 2 = m16 zs pos := rfl
  have hout : ∀ (w' : World) (off : Nat), (∃ pe, Rd w' p (.slice (some ⟨G, 0, none⟩) len cap) off en (faultV pe) ∧ FaultAt w' pe (pos + 12) ∧ pe ≠ p ∧ Only p w w') → Flt47 p K en (pos + 12) (.slice (some ⟨G, 0, none⟩) len cap) kv gv w w' := fun w' off ⟨pe, i1, i2, i3, i4⟩ =>
    ⟨⟨pe, off, i1, i2, i3⟩, ⟨_, _, _, (Frame.of_only (S := fun k => k = p) i4 rfl).heap hK hKp⟩, Frame.of_only i4 (Or.inl rfl)⟩
  rcases hb with ⟨h1, _⟩ | ⟨_, h1, _⟩ | ⟨_, h3, rfl⟩ | ⟨h4, h5, rfl⟩ | ⟨h6, h7, rfl⟩
  · omega
  · omega
  · refine (vector16_any p 47 _ w _ (vector_short p (pos + 12) en 2 47 _ _ w h h12 (by omega) hen)).mono ?_
    rintro e w' ⟨rfl, hx⟩
    exact ⟨rfl, hout w' _ hx⟩
  · refine (vector16_any p 47 _ w _ (vector_past p (pos + 12) en 2 47 G len cap _ zs w h hGp row hz hel hlc hen (by omega) (Nat.le_refl _) (by omega) (by rw [hm16]; omega))).mono ?_
    rintro e w' ⟨rfl, hx⟩
    exact ⟨rfl, hout w' _ hx⟩
  · have hd := Nat.div_add_mod (m16 zs pos) s
    have hl := Nat.mod_lt (m16 zs pos) (show s > 0 by omega)
    rw [Nat.mul_comm] at hd
    have hV := vector16_any p 47 #[.pointer (some ⟨R, 0, none⟩), .pointer (some ⟨K, 0, none⟩), .pointer (some ⟨N, 0, none⟩)] w _
      (vector_ok p (pos + 12) en 2 47 G len cap #[.pointer (some ⟨R, 0, none⟩), .pointer (some ⟨K, 0, none⟩), .pointer (some ⟨N, 0, none⟩)] zs w
        (fun w2 => Flt47 p K (pos + 14 + m16 zs pos) (pos + 14 + m16 zs pos / s * s) (.slice (some ⟨G, 0, none⟩) len cap) kv gv w w2)
        h hGp row hz hel hlc hen (by omega) (Nat.le_refl _) (by rw [hm16]; omega) enters47
        (fun w1 hr1 ho1 => by
          rw [hm16, show pos + 12 + 2 = pos + 14 by omega] at hr1
          have hF : Frame (fun k => k = p) w w1 := Frame.of_only ho1 rfl
          refine (body47_bad R K N p G len cap (pos + 14) (pos + 14 + m16 zs pos) s (m16 zs pos / s) kv gv w1 (hF.cell hR hRp) (hF.cell hN hNp) hr1 (hF.heap hK hKp) hRp hRK hNp hNK hKp hs (by omega) (by omega) (by omega) hlc (by omega)).mono ?_
          rintro e w' ⟨rfl, i1, i2, i3⟩
          exact ⟨rfl, i1, i2, (Frame.of_only ho1 (Or.inl rfl)).trans i3⟩)
        (fun w2 h2 => by
          obtain ⟨⟨pe, off, i1, i2, i3⟩, _, _⟩ := h2
          exact ⟨off, _, by rw [hm16, show pos + 12 + 2 = pos + 14 by omega]; exact i1, Or.inr ⟨pe, rfl⟩⟩))
    refine hV.mono ?_
    rintro e w' ⟨rfl, w2, q, ⟨⟨pe, off, i1, ⟨t, i2⟩, i3⟩, ⟨ra, rn, rc, i4⟩, i5⟩, rfl⟩
    exact ⟨rfl, ⟨pe, off, (show Rd (w2.setCell ⟨p, 2, none⟩ (.int .i64 en)) p _ off en (faultV pe) from i1.set 2 _).drewN q, ⟨t, (Below.heap_setCell w2 ⟨p, 2, none⟩ _ pe i3).trans i2⟩, i3⟩, ⟨ra, rn, rc, (Below.heap_setCell w2 ⟨p, 2, none⟩ _ K hKp).trans i4⟩, (i5.setCell (Or.inl (Or.inl rfl)) _ _).drewN q⟩
end
end Go.Proofs.Qxb6604610aFmt
