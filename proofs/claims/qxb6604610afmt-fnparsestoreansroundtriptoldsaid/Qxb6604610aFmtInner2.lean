/-
  ParseStoreAns$1$1 (47): the replicas do not fill the list: a fault.
-/
import Derived.Test.Qxb6604610aFmtInner
namespace Go.Proofs.Qxb6604610aFmt
open Go.RowKit Go.Extern.Stop Go.Stop Go.Extern

/-- A fault at f was met. -/
def Flt47 (p K ie f : Nat) (bv kv gv : Value) (w wr : World) : Prop :=
  (∃ pe off, Rd wr p bv off ie (faultV pe) ∧ FaultAt wr pe f ∧ pe ≠ p) ∧ (∃ a n c, wr.heap[K]? = some (.cells #[kv, gv, .slice a n c] 64 (0, 0))) ∧ Frame (fun k => k = p ∨ k = K) w wr
theorem Flt47.drewN {p K ie f : Nat} {bv kv gv : Value} {w wr : World} (h : Flt47 p K ie f bv kv gv w wr) (q : Nat) : Flt47 p K ie f bv kv gv w (wr.drewN q) := ⟨h.1, h.2.1, h.2.2.drewN q⟩

theorem flt47_step {p K G q0 s ie f off pe c : Nat} {bv kv gv rv : Value} {a' : Option Addr} {n' c' : Nat} {w w1 w3 : World} {o : Obj} (hp : p < w.heap.size) (hKw : K < w.heap.size) (hKp : K ≠ p)
    (hr1 : Rd w1 p bv off ie (faultV pe)) (hfl : FaultAt w1 pe f) (hpe : pe ≠ p) (hk1 : w1.heap[K]? = some (.cells #[kv, gv, rv] 64 (0, 0))) (hown1 : w1.ownsRow w.heap.size 22 1 rv c (repCells G q0 s c))
    (hf1 : Frame (fun k => k = p ∨ k = K) w w1) (hrv : ∀ k, rv.ownBlock = some k → w.heap.size ≤ k) (hg : (w1.alloc o).grownBy w3 rv.ownBlock) :
    Flt47 p K ie f bv kv gv w (w3.setCell ⟨K, 2, none⟩ (.slice a' n' c')) := by
  have hnr : ∀ k, k < w.heap.size → some k ≠ rv.ownBlock := fun k hk e => by have := hrv k e.symm; omega
  have hp1 : w3.heap[p]? = w1.heap[p]? := (hg.block p (by have := hf1.size; simp; omega) (hnr p hp)).trans (Below.heap_alloc w1 o p (by have := hf1.size; omega))
  have hK1 : w3.heap[K]? = w1.heap[K]? := (hg.block K (by have := hf1.size; simp; omega) (hnr K hKw)).trans (Below.heap_alloc w1 o K (by have := hf1.size; omega))
  obtain ⟨t, ht⟩ := hfl
  have hpl : pe < w1.heap.size := (Array.getElem?_eq_some_iff.1 ht).1
  have hpr : some pe ≠ rv.ownBlock := by
    intro e
    rcases hown1.2 with ⟨rfl, _⟩ | ⟨g, cp, cur, rfl, _, hgg, _⟩
    · simp [Value.ownBlock] at e
    · simp [Value.ownBlock] at e
      subst e
      rw [ht] at hgg
      simp at hgg
  have hpK : pe ≠ K := by
    rintro rfl
    rw [ht] at hk1
    simp at hk1
  have ht3 : w3.heap[pe]? = some (.cells #[.int .i64 f, .string t] 71 (0, 0)) := ((hg.block pe (by simp; omega) hpr).trans (Below.heap_alloc w1 o pe hpl)).trans ht
  refine ⟨⟨pe, off, ?_, ⟨t, (Below.heap_setCell w3 ⟨K, 2, none⟩ _ pe hpK).trans ht3⟩, hpe⟩, ⟨_, _, _, heap_setCell_same w3 K 2 _ 64 _ (hK1.trans hk1)⟩, ?_⟩
  · exact Rd.setOther (hp1.trans hr1) (Ne.symm hKp) _ _
  · exact ((hf1.alloc o).grown hg (fun k hk => Or.inr (hrv k hk))).setCell (Or.inl (Or.inr rfl)) _ _

set_option maxHeartbeats 4000000 in
theorem body47_bad (R K N p G len cap q0 ie s C : Nat) (kv gv : Value) (w : World) (hR : w.cell? ⟨R, 0, none⟩ = some (.pointer (some ⟨p, 0, none⟩))) (hN : w.cell? ⟨N, 0, none⟩ = some (.int .i64 s))
    (h : Rd w p (.slice (some ⟨G, 0, none⟩) len cap) q0 ie .nilIface) (hK : w.heap[K]? = some (.cells #[kv, gv, .slice none 0 0] 64 (0, 0))) (hRp : R ≠ p) (hRK : R ≠ K) (hNp : N ≠ p) (hNK : N ≠ K) (hKp : K ≠ p)
    (hs : 1 ≤ s) (hC : q0 + C * s < ie) (hC2 : ie < q0 + C * s + s) (hil : ie ≤ len) (hlc : len ≤ cap) (hie : ie ≤ 2097152) :
    Calls Tryf.prog 47 #[.pointer (some ⟨R, 0, none⟩), .pointer (some ⟨K, 0, none⟩), .pointer (some ⟨N, 0, none⟩)] w fun e w' => e = .returned (.tuple #[]) ∧ Flt47 p K ie (q0 + C * s) (.slice (some ⟨G, 0, none⟩) len cap) kv gv w w' := by
  obtain ⟨i0, hi, hz0, hz1, hz2⟩ := info_parts Tryf.info22
  have hpw := h.lt
  have hKw := (kcell hK).2.2.2.2
  have H0 : Inv47 p K G len cap q0 ie s kv gv w w 0 (.slice none 0 0) := ⟨by simpa using h, hK, World.ownsRow_nil _ _ _ _, Frame.refl _ _⟩
  have HR : Hid _ := hR
  have HN : Hid _ := hN
  clear h hK hR hN
  go_enter Tryf.func47, Tryf.ntmps47
  go_wp2_with fail
  go_loopg [] (C + 2) (fun kx wr => (∃ (c : Nat) (rv : Value), c ≤ C ∧ C + 1 - c < kx ∧ Inv47 p K G len cap q0 ie s kv gv w wr c rv) ∨ Flt47 p K ie (q0 + C * s) (.slice (some ⟨G, 0, none⟩) len cap) kv gv w wr)
  case atStart => exact Or.inl ⟨0, _, Nat.zero_le _, by omega, H0⟩
  case round =>
    rcases hrel with ⟨c, rv, hcC, hgk, hI⟩ | hFl
    · clear H0
      obtain ⟨hr, hk, hown, hf⟩ := hI
      obtain ⟨k0, k1, k2, kf, kl⟩ := kcell hk
      have gR := hf.cell HR.out (by rintro (h | h) <;> omega)
      have gN := hf.cell HN.out (by rintro (h | h) <;> omega)
      have hcs : c * s ≤ C * s := Nat.mul_le_mul_right s hcC
      have hM := more_ok p (q0 + c * s) ie _ wr hr
      by_cases hlt : c < C
      · have hcs1 : (c + 1) * s ≤ C * s := Nat.mul_le_mul_right s hlt
        rw [Nat.add_mul, Nat.one_mul] at hcs1
        rw [decide_eq_true (by omega)] at hM
        go_wp2_with fail
        refine hM.mono ?_
        rintro e w' ⟨rfl, q, rfl⟩
        go_wp2_with fail
        have hFx := fun m => fixed_any p s s (some ⟨G, q0 + c * s, none⟩) (s : Int) (wr.drewN m) (fun w' => Rd w' p (.slice (some ⟨G, 0, none⟩) len cap) (q0 + c * s + s) ie .nilIface ∧ Only p (wr.drewN m) w')
          (cutA_pos G (q0 + c * s) s hs ▸ take_ok p (q0 + c * s) ie s G len cap (wr.drewN m) (hr.drewN m) (by omega) (by omega) hie)
        have hCs : c ≤ c * s := Nat.le_mul_of_pos_right c hs
        have hrv : ∀ k, rv.ownBlock = some k → w.heap.size ≤ k := fun k hk => (hown.lt k hk).1
        have hfs := hf.size
        clear hM hr
        go_region_law (first
          | (refine step_call rfl 21 #[.tmp 7, .tmp 8] #[25, 3] rfl #[.pointer (some ⟨p, 0, none⟩), .int .i64 s] (by simp [Act.eval]) enters21 (.slice (some ⟨G, q0 + c * s, none⟩) s s) _ (hFx _) ?_; intro w1 hS; obtain ⟨hr1, ho1⟩ := hS; obtain ⟨hk1, hown1, hf1, k21, kl1, hfs1, gR1, gN1⟩ := call47 hk hown hf ho1 hKp hpw hrv gR gN hRp hNp)
          | (refine step_append_lies _ rfl (.tmp 6) (.tmp 10) 56 rfl w.heap.size 22 i0 _ 1 24 Tryf.underlying56 hi hz0 hz1 hz2 rfl (by decide) rv c _ rfl (hown1.alloc _) ⟨w1.heap.size, 0, none⟩ 1 1 [.slice (some ⟨G, q0 + c * s, none⟩) s s] rfl rfl (one_new _ _ _) one_one (by omega) (by unfold maxLen; omega) (by omega) (by simp; omega) (w1.heap.size + 1) (by simp) ?_; intro g cp w3 hown3 hgr hlie hlt3; obtain ⟨k23, kf3⟩ := after47 hk1 hKw hfs1 hrv hgr))
        all_goals
          go_wp2_with fail
          go_roundg (C + 1 - c)
          case rel => exact Or.inl ⟨c + 1, _, by omega, by omega, inv47_step hpw hKw hKp hr1 hk1 hf1 _ hrv hown3 hgr⟩
          case measure => omega
      · obtain rfl : c = C := by omega
        rw [decide_eq_true (by omega)] at hM
        go_wp2_with fail
        refine hM.mono ?_
        rintro e w' ⟨rfl, q, rfl⟩
        go_wp2_with fail
        have hFx := fun m => fixed_any p 0 0 none (s : Int) (wr.drewN m) (fun w' => ∃ pe, Rd w' p (.slice (some ⟨G, 0, none⟩) len cap) (q0 + c * s) ie (faultV pe) ∧ FaultAt w' pe (q0 + c * s) ∧ pe ≠ p ∧ Only p (wr.drewN m) w')
          (take_past p (q0 + c * s) ie _ (s : Int) (wr.drewN m) (hr.drewN m) (by omega) hie (by omega))
        have hCs : c ≤ c * s := Nat.le_mul_of_pos_right c hs
        have hrv : ∀ k, rv.ownBlock = some k → w.heap.size ≤ k := fun k hk => (hown.lt k hk).1
        have hfs := hf.size
        clear hM hr
        go_region_law (first
          | (refine step_call rfl 21 #[.tmp 7, .tmp 8] #[25, 3] rfl #[.pointer (some ⟨p, 0, none⟩), .int .i64 s] (by simp [Act.eval]) enters21 (.slice none 0 0) _ (hFx _) ?_; intro w1 hS; obtain ⟨pe, hr1, hfl1, hpe1, ho1⟩ := hS; obtain ⟨hk1, hown1, hf1, k21, kl1, hfs1, gR1, gN1⟩ := call47 hk hown hf ho1 hKp hpw hrv gR gN hRp hNp)
          | (refine step_append_lies _ rfl (.tmp 6) (.tmp 10) 56 rfl w.heap.size 22 i0 _ 1 24 Tryf.underlying56 hi hz0 hz1 hz2 rfl (by decide) rv c _ rfl (hown1.alloc _) ⟨w1.heap.size, 0, none⟩ 1 1 [.slice none 0 0] rfl rfl (one_new _ _ _) one_one (by omega) (by unfold maxLen; omega) (by omega) (by simp; omega) (w1.heap.size + 1) (by simp) ?_; intro g cp w3 hown3 hgr hlie hlt3; obtain ⟨k23, kf3⟩ := after47 hk1 hKw hfs1 hrv hgr))
        all_goals
          go_wp2_with fail
          go_roundg (gk - 1)
          case rel => exact Or.inr (flt47_step hpw hKw hKp hr1 hfl1 hpe1 hk1 hown1 hf1 hrv hgr)
          case measure => omega
    · clear H0
      obtain ⟨⟨pe, off, hr, hfl, hpe⟩, ⟨ra, rn, rc, hk⟩, hf⟩ := hFl
      have gR := hf.cell HR.out (by rintro (h | h) <;> omega)
      have hM := more_err p off ie pe _ wr hr
      go_wp2_with (go_at_call 15; refine hM.mono ?_; rintro e w' ⟨rfl, q, rfl⟩)
      go_end0
      exact ⟨rfl, Flt47.drewN ⟨⟨pe, off, hr, hfl, hpe⟩, ⟨ra, rn, rc, hk⟩, hf⟩ q⟩
end Go.Proofs.Qxb6604610aFmt
