/-
  ParseStoreAns$1$1 (47): the replicas of one kind response.
-/
import Derived.Test.Qxb6604610aFmtFrame
import Derived.Deep.LoopGhost
namespace Go.Proofs.Qxb6604610aFmt
open Go.RowKit Go.Extern.Stop Go.Stop Go.Extern

/-- Behind c replicas. -/
def Inv47 (p K G len cap q0 ie s : Nat) (kv gv : Value) (w wr : World) (c : Nat) (rv : Value) : Prop :=
  Rd wr p (.slice (some ⟨G, 0, none⟩) len cap) (q0 + c * s) ie .nilIface ∧ wr.heap[K]? = some (.cells #[kv, gv, rv] 64 (0, 0)) ∧ wr.ownsRow w.heap.size 22 1 rv c (repCells G q0 s c) ∧ Frame (fun k => k = p ∨ k = K) w wr

theorem kcell {w : World} {K : Nat} {kv gv rv : Value} (h : w.heap[K]? = some (.cells #[kv, gv, rv] 64 (0, 0))) :
    w.cell? ⟨K, 0, none⟩ = some kv ∧ w.cell? ⟨K, 1, none⟩ = some gv ∧ w.cell? ⟨K, 2, none⟩ = some rv ∧ (∀ j, w.frozen? ⟨K, j, none⟩ = false) ∧ K < w.heap.size :=
  ⟨by rw [cell_of_row w K 0 _ 64 (0, 0) h]; rfl, by rw [cell_of_row w K 1 _ 64 (0, 0) h]; rfl, by rw [cell_of_row w K 2 _ 64 (0, 0) h]; rfl, fun j => frozen_of_row w K j _ 64 h, (Array.getElem?_eq_some_iff.1 h).1⟩

/-- One replica more. -/
theorem inv47_step {p K G len cap q0 ie s : Nat} {kv gv : Value} {w w1 w3 : World} {c g cp : Nat} {rv : Value} (hp : p < w.heap.size) (hKw : K < w.heap.size) (hKp : K ≠ p)
    (hr1 : Rd w1 p (.slice (some ⟨G, 0, none⟩) len cap) (q0 + c * s + s) ie .nilIface) (hk1 : w1.heap[K]? = some (.cells #[kv, gv, rv] 64 (0, 0)))
    (hf1 : Frame (fun k => k = p ∨ k = K) w w1) (o : Obj) (hrv : ∀ k, rv.ownBlock = some k → w.heap.size ≤ k)
    (hown : w3.ownsRow w.heap.size 22 1 (.slice (some ⟨g, 0, none⟩) (c + 1) cp) (c + 1) (repCells G q0 s c ++ [.slice (some ⟨G, q0 + c * s, none⟩) s s])) (hg : (w1.alloc o).grownBy w3 rv.ownBlock) :
    Inv47 p K G len cap q0 ie s kv gv w (w3.setCell ⟨K, 2, none⟩ (.slice (some ⟨g, 0, none⟩) (c + 1) cp)) (c + 1) (.slice (some ⟨g, 0, none⟩) (c + 1) cp) := by
  have hnr : ∀ k, k < w.heap.size → some k ≠ rv.ownBlock := fun k hk e => by have := hrv k e.symm; omega
  have hp1 : w3.heap[p]? = w1.heap[p]? := (hg.block p (by have := hf1.size; simp; omega) (hnr p hp)).trans (Below.heap_alloc w1 o p (by have := hf1.size; omega))
  have hK1 : w3.heap[K]? = w1.heap[K]? := (hg.block K (by have := hf1.size; simp; omega) (hnr K hKw)).trans (Below.heap_alloc w1 o K (by have := hf1.size; omega))
  refine ⟨?_, ?_, ?_, ?_⟩
  · have : Rd w3 p (.slice (some ⟨G, 0, none⟩) len cap) (q0 + (c + 1) * s) ie .nilIface := by
      have h := hp1.trans hr1
      rw [show q0 + (c + 1) * s = q0 + c * s + s by rw [Nat.add_mul, Nat.one_mul, Nat.add_assoc]]
      exact h
    exact this.setOther (Ne.symm hKp) _ _
  · exact heap_setCell_same w3 K 2 _ 64 _ (hK1.trans hk1)
  · exact ownsRow_setCell_below hown (a := ⟨K, 2, none⟩) hKw _
  · exact ((hf1.alloc o).grown hg (fun k hk => Or.inr (hrv k hk))).setCell (Or.inl (Or.inr rfl)) _ _

theorem one_new (w : World) (v : Value) (t : TypeId) : ∀ j u, [v][j]? = some u → (w.alloc (.cells #[v] t)).cell? ((⟨w.heap.size, 0, none⟩ : Addr).add j) = some u := by
  intro j u hj
  match j, hj with
  | 0, hj => simp at hj; subst hj; simp [Addr.add]
theorem one_one {a : Option Addr} {n c : Nat} : ∀ u ∈ [Value.slice a n c], u.oneCell' = true := by
  intro u hu
  simp at hu
  subst hu
  rfl
theorem after47 {K : Nat} {kv gv rv : Value} {w w1 w3 : World} {o : Obj} (hk1 : w1.heap[K]? = some (.cells #[kv, gv, rv] 64 (0, 0))) (hKw : K < w.heap.size) (hs : w.heap.size ≤ w1.heap.size) (hrv : ∀ k, rv.ownBlock = some k → w.heap.size ≤ k)
    (hg : (w1.alloc o).grownBy w3 rv.ownBlock) : w3.cell? ⟨K, 2, none⟩ = some rv ∧ w3.frozen? ⟨K, 2, none⟩ = false := by
  have h : w3.heap[K]? = some (.cells #[kv, gv, rv] 64 (0, 0)) := ((hg.block K (by simp; omega) (fun e => by have := hrv K e.symm; omega)).trans (Below.heap_alloc w1 o K (by omega))).trans hk1
  exact ⟨(kcell h).2.2.1, (kcell h).2.2.2.1 2⟩
theorem call47 {p K G q0 s c R N m : Nat} {kv gv rv : Value} {w wr w1 : World} {sv : Value} (hk : wr.heap[K]? = some (.cells #[kv, gv, rv] 64 (0, 0))) (hown : wr.ownsRow w.heap.size 22 1 rv c (repCells G q0 s c)) (hf : Frame (fun k => k = p ∨ k = K) w wr)
    (ho : Only p (wr.drewN m) w1) (hKp : K ≠ p) (hpw : p < w.heap.size) (hrv : ∀ k, rv.ownBlock = some k → w.heap.size ≤ k) (gR : wr.cell? ⟨R, 0, none⟩ = some (.pointer (some ⟨p, 0, none⟩))) (gN : wr.cell? ⟨N, 0, none⟩ = some sv) (hRp : R ≠ p) (hNp : N ≠ p) :
    w1.heap[K]? = some (.cells #[kv, gv, rv] 64 (0, 0)) ∧ w1.ownsRow w.heap.size 22 1 rv c (repCells G q0 s c) ∧ Frame (fun k => k = p ∨ k = K) w w1 ∧ w1.cell? ⟨K, 2, none⟩ = some rv ∧ K < w1.heap.size ∧ w.heap.size ≤ w1.heap.size ∧
    w1.cell? ⟨R, 0, none⟩ = some (.pointer (some ⟨p, 0, none⟩)) ∧ w1.cell? ⟨N, 0, none⟩ = some sv := by
  have hF : Frame (fun k => k = p) (wr.drewN m) w1 := Frame.of_only ho rfl
  have h1 : w1.heap[K]? = some (.cells #[kv, gv, rv] 64 (0, 0)) := hF.heap (w := wr.drewN m) hk hKp
  refine ⟨h1, hF.owns (w := wr.drewN m) hown (fun k hk e => by have := hrv k hk; omega), (hf.drewN m).trans (Frame.of_only ho (Or.inl rfl)), (kcell h1).2.2.1, (kcell h1).2.2.2.2, Nat.le_trans hf.size ho.size, hF.cell (w := wr.drewN m) gR hRp, hF.cell (w := wr.drewN m) gN hNp⟩

set_option maxHeartbeats 4000000 in
theorem body47_ok (R K N p G len cap q0 ie s C : Nat) (kv gv : Value) (w : World) (hR : w.cell? ⟨R, 0, none⟩ = some (.pointer (some ⟨p, 0, none⟩))) (hN : w.cell? ⟨N, 0, none⟩ = some (.int .i64 s))
    (h : Rd w p (.slice (some ⟨G, 0, none⟩) len cap) q0 ie .nilIface) (hK : w.heap[K]? = some (.cells #[kv, gv, .slice none 0 0] 64 (0, 0))) (hRp : R ≠ p) (hRK : R ≠ K) (hNp : N ≠ p) (hNK : N ≠ K) (hKp : K ≠ p)
    (hs : 1 ≤ s) (hC : q0 + C * s = ie) (hil : ie ≤ len) (hlc : len ≤ cap) (hie : ie ≤ 2097152) :
    Calls Tryf.prog 47 #[.pointer (some ⟨R, 0, none⟩), .pointer (some ⟨K, 0, none⟩), .pointer (some ⟨N, 0, none⟩)] w fun e w' => e = .returned (.tuple #[]) ∧ ∃ rv, Inv47 p K G len cap q0 ie s kv gv w w' C rv := by
  obtain ⟨i0, hi, hz0, hz1, hz2⟩ := info_parts Tryf.info22
  have hpw := h.lt
  have hKw := (kcell hK).2.2.2.2
  have H0 : Inv47 p K G len cap q0 ie s kv gv w w 0 (.slice none 0 0) := ⟨by simpa using h, hK, World.ownsRow_nil _ _ _ _, Frame.refl _ _⟩
  have HR : Hid _ := hR
  have HN : Hid _ := hN
  clear h hK hR hN
  go_enter Tryf.func47, Tryf.ntmps47
  go_wp2_with fail
  go_loopg [] (C + 1) (fun kx wr => ∃ (c : Nat) (rv : Value), c ≤ C ∧ C - c < kx ∧ Inv47 p K G len cap q0 ie s kv gv w wr c rv)
  case atStart => exact ⟨0, _, Nat.zero_le _, by omega, H0⟩
  case round =>
    obtain ⟨c, rv, hcC, hgk, hI⟩ := hrel
    clear H0
    obtain ⟨hr, hk, hown, hf⟩ := hI
    obtain ⟨k0, k1, k2, kf, kl⟩ := kcell hk
    have gR := hf.cell HR.out (by rintro (h | h) <;> omega)
    have gN := hf.cell HN.out (by rintro (h | h) <;> omega)
    have hcs : c * s ≤ C * s := Nat.mul_le_mul_right s hcC
    have hM := more_ok p (q0 + c * s) ie _ wr hr
    by_cases hlt : c < C
    · have hcs1 : (c + 1) * s ≤ C * s := Nat.mul_le_mul_right s hlt
      rw [Nat.add_mul, Nat.one_mul] at hcs1
      rw [decide_eq_true (by omega)] at hM
      go_wp2_with fail
      refine hM.mono ?_
      rintro e w' ⟨rfl, q, rfl⟩
      go_wp2_with fail
      have hFx := fun m => fixed_any p s s (some ⟨G, q0 + c * s, none⟩) (s : Int) (wr.drewN m) (fun w' => Rd w' p (.slice (some ⟨G, 0, none⟩) len cap) (q0 + c * s + s) ie .nilIface ∧ Only p (wr.drewN m) w')
        (cutA_pos G (q0 + c * s) s hs ▸ take_ok p (q0 + c * s) ie s G len cap (wr.drewN m) (hr.drewN m) (by omega) (by omega) hie)
      have hCs : c ≤ c * s := Nat.le_mul_of_pos_right c hs
      have hrv : ∀ k, rv.ownBlock = some k → w.heap.size ≤ k := fun k hk => (hown.lt k hk).1
      have hfs := hf.size
      clear hM hr
      go_region_law (first
        | (refine step_call rfl 21 #[.tmp 7, .tmp 8] #[25, 3] rfl #[.pointer (some ⟨p, 0, none⟩), .int .i64 s] (by simp [Act.eval]) enters21 (.slice (some ⟨G, q0 + c * s, none⟩) s s) _ (hFx _) ?_; intro w1 hS; obtain ⟨hr1, ho1⟩ := hS; obtain ⟨hk1, hown1, hf1, k21, kl1, hfs1, gR1, gN1⟩ := call47 hk hown hf ho1 hKp hpw hrv gR gN hRp hNp)
        | (refine step_append_lies _ rfl (.tmp 6) (.tmp 10) 56 rfl w.heap.size 22 i0 _ 1 24 Tryf.underlying56 hi hz0 hz1 hz2 rfl (by decide) rv c _ rfl (hown1.alloc _) ⟨w1.heap.size, 0, none⟩ 1 1 [.slice (some ⟨G, q0 + c * s, none⟩) s s] rfl rfl (one_new _ _ _) one_one (by omega) (by unfold maxLen; omega) (by omega) (by simp; omega) (w1.heap.size + 1) (by simp) ?_; intro g cp w3 hown3 hgr hlie hlt3; obtain ⟨k23, kf3⟩ := after47 hk1 hKw hfs1 hrv hgr))
      all_goals
        go_wp2_with fail
        go_roundg (C - c)
        case rel => exact ⟨c + 1, _, by omega, by omega, inv47_step hpw hKw hKp hr1 hk1 hf1 _ hrv hown3 hgr⟩
        case measure => omega
    · obtain rfl : c = C := by omega
      rw [decide_eq_false (by omega)] at hM
      go_wp2_with (go_at_call 15; refine hM.mono ?_; rintro e w' ⟨rfl, q, rfl⟩)
      go_end0
      exact ⟨rfl, rv, hr.drewN _, hk, hown, hf.drewN _⟩
end Go.Proofs.Qxb6604610aFmt
