/-
  ParseStoreAns (41).
-/
import Derived.Test.Qxb6604610aFmtOuter2
namespace Go.Proofs.Qxb6604610aFmt
open Go.RowKit Go.Extern.Stop Go.Stop Go.Extern

/-- Why the answer is refused at f. -/
def Why (zs : List Int) (s n f : Nat) : Prop :=
  (n < 2 ∧ f = 0) ∨ (2 ≤ n ∧ n < 2 + lenV zs 0 2 ∧ f = 0) ∨
  (2 + lenV zs 0 2 ≤ n ∧ ∃ k, (∀ i, i < k → ItemOK zs s (2 + lenV zs 0 2) (posK zs i)) ∧ posK zs k < 2 + lenV zs 0 2 ∧ ItemBad zs s (2 + lenV zs 0 2) (posK zs k) f) ∨
  (2 + lenV zs 0 2 < n ∧ (∃ k, (∀ i, i < k → ItemOK zs s (2 + lenV zs 0 2) (posK zs i)) ∧ posK zs k = 2 + lenV zs 0 2) ∧ f = 2 + lenV zs 0 2)
/-- The kind responses lie at kv, read whole. -/
structure Whole (G s en : Nat) (zs : List Int) (base : Nat) (w : World) (kv : Value) (m : Nat) (rvs : Nat → Value) : Prop where
  own : w.ownsRow base 64 3 kv m (flatK zs rvs m)
  reps : ∀ i, i < m → w.ownsRow base 22 1 (rvs i) (cntK zs s i) (repCells G (posK zs i + 14) s (cntK zs s i))
  ok : ∀ i, i < m → ItemOK zs s en (posK zs i)
  at' : posK zs m = en
theorem owns_below {w w' : World} {base : Nat} {e : TypeId} {size n : Nat} {v : Value} {xs : List Value} (h : w.ownsRow base e size v n xs) (hb : Below w.heap.size w w') : w'.ownsRow base e size v n xs :=
  Frame.owns (S := fun _ => False) (Frame.of_below hb) h (fun _ _ => id)
theorem Whole.frame {G s en base m : Nat} {zs : List Int} {w w' : World} {kv : Value} {rvs : Nat → Value} {S : Nat → Prop} (h : Whole G s en zs base w kv m rvs) (hF : Frame S w w') (hS : ∀ i, base ≤ i → ¬ S i) : Whole G s en zs base w' kv m rvs :=
  ⟨hF.owns h.own (fun i hi => hS i (h.own.lt i hi).1), fun i hi => hF.owns (h.reps i hi) (fun j hj => hS j ((h.reps i hi).lt j hj).1), h.ok, h.at'⟩
theorem Whole.base {G s en base base' m : Nat} {zs : List Int} {w : World} {kv : Value} {rvs : Nat → Value} (h : Whole G s en zs base w kv m rvs) (hb : base' ≤ base) : Whole G s en zs base' w kv m rvs :=
  ⟨ownsRow_base h.own hb, fun i hi => ownsRow_base (h.reps i hi) hb, h.ok, h.at'⟩

section
variable {p A G R N n s : Nat} {zs : List Int} {bv : Value}

theorem finish_s (off en : Nat) (fo : Option Nat) (w : World) (h : RS w p bv off en fo) (hoe : fo = none → off ≤ en) (hen : en ≤ 2097152) :
    Calls Tryf.prog 16 #[.pointer (some ⟨p, 0, none⟩)] w fun e w' => Only p w w' ∧ ((fo = none ∧ off = en ∧ e = .returned .nilIface) ∨ ∃ pe f, e = .returned (faultV pe) ∧ FaultAt w' pe f ∧ (fo = some f ∨ (fo = none ∧ off < en ∧ f = off))) := by
  cases fo with
  | none =>
    by_cases h1 : off = en
    · subst h1
      refine (finish_ok p off bv w h).mono ?_
      rintro e w' ⟨rfl, q, rfl⟩
      exact ⟨(Only.refl _ _).drewN q, Or.inl ⟨rfl, rfl, rfl⟩⟩
    · have h2 := hoe rfl
      refine (finish_left p off en bv w h (by omega) hen).mono ?_
      rintro e w' ⟨pe, rfl, h3, h4, h5⟩
      exact ⟨h5, Or.inr ⟨pe, off, rfl, h4, Or.inr ⟨rfl, by omega, rfl⟩⟩⟩
  | some f =>
    obtain ⟨pe, o, h1, h2, h3⟩ := h
    refine (finish_err p o en pe bv w h1).mono ?_
    rintro e w' ⟨rfl, q, rfl⟩
    exact ⟨(Only.refl _ _).drewN q, Or.inr ⟨pe, f, rfl, h2, Or.inl rfl⟩⟩

/-- What Vector16 leaves over the kind responses. -/
def Left (p A G n s : Nat) (zs : List Int) (bv : Value) (w w' : World) : Prop :=
  ∃ (fo : Option Nat) (off : Nat) (a : Option Addr) (kn kc : Nat), w'.heap[A]? = some (.cells #[.slice a kn kc] 47 (0, 0)) ∧ RS w' p bv off n fo ∧ Frame (fun i => i = p ∨ i = A) w w' ∧
    (fo = none → off ≤ n ∧ off = 2 + lenV zs 0 2 ∧ ∃ rvs, Whole G s (2 + lenV zs 0 2) zs w.heap.size w' (.slice a kn kc) kn rvs) ∧ (∀ f, fo = some f → Why zs s n f)

theorem vec46_short (w : World) (h : Rd w p bv 0 n .nilIface) (hA : w.heap[A]? = some (.cells #[.slice none 0 0] 47 (0, 0))) (hAp : A ≠ p) (hn : n < 2) (cb : Array Value) :
    Calls Tryf.prog 45 #[.pointer (some ⟨p, 0, none⟩), .func (.func 46) #[] cb] w fun e w' => e = .returned (.tuple #[]) ∧ Left p A G n s zs bv w w' := by
  refine (vector16_any p 46 _ w _ (vector_short p 0 n 2 46 _ _ w h (Nat.zero_le _) (by omega) (by omega))).mono ?_
  rintro e w' ⟨rfl, pe, h1, h2, h3, h4⟩
  exact ⟨rfl, some 0, 0, _, _, _, (Frame.of_only (S := fun i => i = p) h4 rfl).heap hA hAp, ⟨pe, 0, h1, h2, h3⟩, Frame.of_only h4 (Or.inl rfl), fun hx => by simp at hx, fun f hf => by cases hf; exact Or.inl ⟨hn, rfl⟩⟩

theorem vec46 (w : World) (hR : w.cell? ⟨R, 0, none⟩ = some (.pointer (some ⟨p, 0, none⟩))) (hN : w.cell? ⟨N, 0, none⟩ = some (.int .i64 s))
    (h : Rd w p (.slice (some ⟨G, 0, none⟩) n n) 0 n .nilIface) (hA : w.heap[A]? = some (.cells #[.slice none 0 0] 47 (0, 0))) (hRp : R ≠ p) (hRA : R ≠ A) (hNp : N ≠ p) (hNA : N ≠ A) (hAp : A ≠ p) (hGp : G ≠ p) (hGA : G ≠ A) (hGw : G < w.heap.size)
    (row : BRow w (some ⟨G, 0, none⟩) n zs) (hz : Bytes zs) (hs : 1 ≤ s) (hn : n ≤ 2097152) :
    Calls Tryf.prog 45 #[.pointer (some ⟨p, 0, none⟩), .func (.func 46) #[] #[.pointer (some ⟨R, 0, none⟩), .pointer (some ⟨N, 0, none⟩), .pointer (some ⟨A, 0, none⟩)]] w fun e w' => e = .returned (.tuple #[]) ∧ Left p A G n s zs (.slice (some ⟨G, 0, none⟩) n n) w w' := by
  have hpw := h.lt
  have hAw := (Array.getElem?_eq_some_iff.1 hA).1
  by_cases h2 : n < 2
  · exact vec46_short w h hA hAp h2 _
  by_cases h3 : n < 2 + lenV zs 0 2
  · refine (vector16_any p 46 _ w _ (vector_past p 0 n 2 46 G n n _ zs w h hGp row hz (Nat.le_refl _) (Nat.le_refl _) hn (by omega) (Nat.le_refl _) (by omega) (by omega))).mono ?_
    rintro e w' ⟨rfl, pe, h1, h4, h5, h6⟩
    exact ⟨rfl, some 0, 0, _, _, _, (Frame.of_only (S := fun i => i = p) h6 rfl).heap hA hAp, ⟨pe, _, h1, h4, h5⟩, Frame.of_only h6 (Or.inl rfl), fun hx => by simp at hx, fun f hf => by cases hf; exact Or.inr (Or.inl ⟨by omega, h3, rfl⟩)⟩
  · have hV := vector16_any p 46 #[.pointer (some ⟨R, 0, none⟩), .pointer (some ⟨N, 0, none⟩), .pointer (some ⟨A, 0, none⟩)] w _
      (vector_ok p 0 n 2 46 G n n #[.pointer (some ⟨R, 0, none⟩), .pointer (some ⟨N, 0, none⟩), .pointer (some ⟨A, 0, none⟩)] zs w
        (fun w2 => ∃ w1, Only p w w1 ∧ ((∃ k kv rvs, posK zs k = 2 + lenV zs 0 2 ∧ Inv46 p A G (.slice (some ⟨G, 0, none⟩) n n) (2 + lenV zs 0 2) s zs w1 w2 k kv rvs) ∨ ∃ f, Bad46 p A (.slice (some ⟨G, 0, none⟩) n n) (2 + lenV zs 0 2) s zs w1 w2 f))
        h hGp row hz (Nat.le_refl _) (Nat.le_refl _) hn (by omega) (Nat.le_refl _) (by omega) enters46
        (fun w1 hr1 ho1 => by
          rw [Nat.zero_add] at hr1
          have hF : Frame (fun k => k = p) w w1 := Frame.of_only ho1 rfl
          refine (body46 R A N p G n n (2 + lenV zs 0 2) s zs w1 (hF.cell hR hRp) (hF.cell hN hNp) hr1 (hF.heap hA hAp) hRp hRA hNp hNA hAp hGp hGA (Nat.lt_of_lt_of_le hGw ho1.size) (hF.row row hGp) hz hs (by omega) (by omega) (Nat.le_refl _) (by omega)).mono ?_
          rintro e w' ⟨rfl, hx⟩
          exact ⟨rfl, w1, ho1, hx⟩)
        (fun w2 ⟨w1, _, hx⟩ => by
          rw [Nat.zero_add]
          rcases hx with ⟨k, kv, rvs, e, hI⟩ | ⟨f, hB⟩
          · exact ⟨_, _, hI.rd, Or.inl ⟨rfl, e⟩⟩
          · obtain ⟨pe, o, i1, _, _⟩ := hB.rd
            exact ⟨o, _, i1, Or.inr ⟨pe, rfl⟩⟩))
    refine hV.mono ?_
    rintro e w' ⟨rfl, w2, q, ⟨w1, ho1, hx⟩, rfl⟩
    refine ⟨rfl, ?_⟩
    have F1 : Frame (fun i => i = p ∨ i = A) w w1 := Frame.of_only ho1 (Or.inl rfl)
    have F3 : ∀ w2 : World, Frame (fun i => i = p) w2 ((w2.setCell ⟨p, 2, none⟩ (.int .i64 n)).drewN q) := fun w2 => (Frame.setCell (S := fun i => i = p) (g := p) (Frame.refl _ w2) (Or.inl rfl) 2 (.int .i64 n)).drewN q
    rcases hx with ⟨k, kv, rvs, e, hI⟩ | ⟨f, hB⟩
    · obtain ⟨a, c, rfl⟩ := slice_of_owns hI.own
      have hW : Whole G s (2 + lenV zs 0 2) zs w.heap.size w2 (.slice a k c) k rvs := ⟨ownsRow_base hI.own ho1.size, fun i hi => ownsRow_base (hI.reps i hi) ho1.size, hI.ok, e⟩
      refine ⟨none, 2 + lenV zs 0 2, a, k, c, (F3 w2).heap hI.a hAp, ?_, (F1.trans hI.fr).trans ((F3 w2).mono (fun _ _ hi => Or.inl hi)), fun _ => ⟨by omega, rfl, rvs, hW.frame (F3 w2) (fun i hi e => by omega)⟩, fun f hf => by simp at hf⟩
      rw [← e]
      exact (show Rd (w2.setCell ⟨p, 2, none⟩ (.int .i64 n)) p _ _ n .nilIface from hI.rd.set 2 _).drewN q
    · obtain ⟨pe, o, i1, ⟨t, i2⟩, i3⟩ := hB.rd
      obtain ⟨a, kn, kc, ha⟩ := hB.a
      refine ⟨some f, 0, a, kn, kc, (F3 w2).heap ha hAp, ?_, (F1.trans hB.fr).trans ((F3 w2).mono (fun _ _ hi => Or.inl hi)), fun hx => by simp at hx, fun f' hf => by cases hf; exact Or.inr (Or.inr (Or.inl ⟨by omega, hB.why⟩))⟩
      exact ⟨pe, o, (show Rd (w2.setCell ⟨p, 2, none⟩ (.int .i64 n)) p _ o n (faultV pe) from i1.set 2 _).drewN q, ⟨t, (F3 w2).heap i2 i3⟩, i3⟩
end
end Go.Proofs.Qxb6604610aFmt
