/-
  ZZnewParts (12): a new row of parts {idx[i], milli[i]}.
-/
import Derived.Test.Qxb6604485aLeaf
import Derived.Deep.RegionLaw
namespace Go.Proofs.Qxb6604485a
open Go.RowKit

/-- append within the capacity onto a row of the call's own, as one step of a region that draws. -/
theorem step_append_fits {P : Program} {ops : Array Oper} {o : Oper} {a : Act} {w : World} {K : Act → World → Prop} {Q : Exit → Act → World → Prop} {E : Prop}
    (hg : o.guard = none) (s x : Operand) (t : TypeId) (hop : o.op = Op.call { callee := Callee.builtin Builtin.append, args := #[s, x], argTypes := #[t, t] })
    (base : Nat) (e : TypeId) (i : TypeInfo) (size : Nat) (h1 : P.underlying t = some (.slice e)) (h2 : P.info? e = some i) (h4 : i.size = size)
    (g k cap : Nat) (xs : List Value) (hs : a.eval s = .slice (some ⟨g, 0, none⟩) k cap) (hown : w.ownsRow base e size (.slice (some ⟨g, 0, none⟩) k cap) k xs) (ad : Addr) (m c : Nat) (news : List Value) (hx : a.eval x = .slice (some ad) m c) (hn : news.length = m * size)
    (hc : ∀ j u, news[j]? = some u → w.cell? (ad.add j) = some u) (h1c : ∀ u ∈ news, u.oneCell' = true) (b1 : k + m ≤ cap)
    (hK : ∀ w', w'.ownsRow base e size (.slice (some ⟨g, 0, none⟩) (k + m) cap) (k + m) (xs ++ news) → w.grownBy w' (some g) → K (a.put o.dst (.slice (some ⟨g, 0, none⟩) (k + m) cap)) w') :
    if Region.wanted o (yielded ops a.tmps) = true then Oper.wp P o a w K Q else E := by
  have hw : Region.wanted o (yielded ops a.tmps) = true := by simp [Region.wanted, hg]
  rw [if_pos hw]
  obtain ⟨w', hrun, r1, r2⟩ := run_append_fits (P := P) w base t o.type e i size h1 h2 h4 g k cap xs hown ad m c news hn hc h1c b1
  unfold Oper.wp
  simp [execOp, hop, resolve, invoke, builtin, hs, hx, hrun, Result.andThen]
  exact hK w' r1 r2

def pairs (xs ms : List Int) : Nat → List Value
  | 0 => []
  | k + 1 => pairs xs ms k ++ [.int .i64 (xs.getD k 0), .int .i64 (ms.getD k 0)]
theorem pairs_length (xs ms : List Int) (k : Nat) : (pairs xs ms k).length = k * 2 := by
  induction k with
  | zero => rfl
  | succ m ih => simp [pairs, ih]; omega
theorem pairs_at (xs ms : List Int) (n i : Nat) (h : i < n) : (pairs xs ms n)[2 * i]? = some (.int .i64 (xs.getD i 0)) ∧ (pairs xs ms n)[2 * i + 1]? = some (.int .i64 (ms.getD i 0)) := by
  induction n with
  | zero => omega
  | succ m ih =>
    have hl := pairs_length xs ms m
    by_cases e : i = m
    · subst e
      rw [pairs]
      rw [List.getElem?_append_right (by omega), List.getElem?_append_right (by omega), hl]
      rw [show 2 * i - i * 2 = 0 by omega, show 2 * i + 1 - i * 2 = 1 by omega]
      exact ⟨rfl, rfl⟩
    · rw [pairs, List.getElem?_append_left (by omega), List.getElem?_append_left (by omega)]
      exact ih (by omega)

theorem Try.info26 : (Try.prog.info? 26).map (fun i => (i.zero, i.size, i.bytes)) = some (some (.agg #[.int .i64 0, .int .i64 0]), 2, 16) := by kernel_rfl

/-- The parts lie in a row of two cells each. -/
def PartsAt (w : World) (b n : Nat) (xs ms : List Int) : Prop :=
  b < w.heap.size ∧ ∀ i, i < n → w.cell? ⟨b, 2 * i, none⟩ = some (.int .i64 (xs.getD i 0)) ∧ w.cell? ⟨b, 2 * i + 1, none⟩ = some (.int .i64 (ms.getD i 0))

theorem PartsAt.below {w w' : World} {b n : Nat} {xs ms : List Int} (h : PartsAt w b n xs ms) {B : Nat} (hb : Below B w w') (hB : b < B) : PartsAt w' b n xs ms :=
  ⟨Nat.lt_of_lt_of_le h.1 hb.size, fun i hi => ⟨(hb.cell (p := ⟨b, 2 * i, none⟩) hB).trans (h.2 i hi).1, (hb.cell (p := ⟨b, 2 * i + 1, none⟩) hB).trans (h.2 i hi).2⟩⟩

theorem partsAt_of_owns {w : World} {base b n cap : Nat} {xs ms : List Int} (h : w.ownsRow base 26 2 (.slice (some ⟨b, 0, none⟩) n cap) n (pairs xs ms n)) : PartsAt w b n xs ms :=
  ⟨(h.lt b rfl).2, fun i hi => ⟨(h.cellAt (2 * i) (by omega)).trans (pairs_at xs ms n i hi).1, (h.cellAt (2 * i + 1) (by omega)).trans (pairs_at xs ms n i hi).2⟩⟩

theorem ret_slice (n c : Nat) {a b : Nat} (h : a = b) : Ending.returned (.slice (some ⟨a, 0, none⟩) n c) = .returned (.slice (some ⟨b, 0, none⟩) n c) := by rw [h]

theorem news_at (W : World) (x m : Int) : ∀ j u, [Value.int .i64 x, Value.int .i64 m][j]? = some u → (W.alloc (.cells #[Value.int .i64 x, Value.int .i64 m] 26)).cell? ((⟨W.heap.size, 0, none⟩ : Addr).add j) = some u := by
  intro j u hj
  match j, hj with
  | 0, hj => simp at hj; subst hj; simp [Addr.add]
  | 1, hj => simp at hj; subst hj; simp [Addr.add]
theorem news_one (x m : Int) : ∀ u ∈ [Value.int .i64 x, Value.int .i64 m], u.oneCell' = true := by
  intro u hu
  simp at hu
  rcases hu with rfl | rfl <;> rfl

set_option maxHeartbeats 2000000 in
theorem newParts_any (a0 a1 : Option Addr) (n c0 c1 : Nat) (xs ms : List Int) (w : World) (hn : n ≤ 65536)
    (h0 : RowAt w a0 n xs) (h1 : RowAt w a1 n ms) (l0 : ∀ x, a0 = some x → 0 < n → x.block < w.heap.size) (l1 : ∀ x, a1 = some x → 0 < n → x.block < w.heap.size) :
    Calls Try.prog 12 #[.slice a0 n c0, .slice a1 n c1] w fun e w' => e = .returned (.slice (some ⟨w.heap.size, 0, none⟩) n n) ∧ PartsAt w' w.heap.size n xs ms ∧ Below w.heap.size w w' := by
  obtain ⟨i0, hi, hz0, hz1, hz2⟩ := info_parts Try.info26
  go_enter Try.func12, Try.ntmps12
  go_wp2_with (refine wpList_make_own _ rfl _ _ 29 rfl w.heap.size 26 i0 _ 2 Try.underlying29 hi hz0 hz1 .i64 .i64 _ n rfl rfl rfl (by rw [hz2]; omega) (by unfold maxLen; omega) (Nat.le_refl _) ?_; intro w1 hown1 hg1)
  have hb1 : Below w.heap.size w w1 := (Below.refl _ w).grown hg1 (Nat.le_refl _) (fun k h => by cases h)
  obtain ⟨B, hB⟩ : ∃ B, B = w.heap.size := ⟨_, rfl⟩
  rw [← hB] at hown1 hb1 l0 l1 ⊢
  have HB : Hid (B = w.heap.size) := hB
  clear hB hg1
  go_loopw [5, 6] (fun v i wr => ∃ k : Nat, k ≤ n ∧ i = .int .i64 k ∧ v = .slice (some ⟨B, 0, none⟩) k n ∧ wr.ownsRow B 26 2 (.slice (some ⟨B, 0, none⟩) k n) k (pairs xs ms k) ∧ Below B w wr) (fun _ i _ => n + 1 - (intOf i).toNat)
  case atStart => exact ⟨0, Nat.zero_le _, rfl, rfl, hown1, hb1⟩
  case round =>
    obtain ⟨k, hk, rfl, rfl, hown, hb⟩ := hrel
    clear hown1 hb1
    by_cases hlt : k < n
    · obtain ⟨b0, o0, rfl, hc0⟩ := h0.2 (by omega)
      obtain ⟨b1, o1, rfl, hc1⟩ := h1.2 (by omega)
      have g0 : wr.cell? ⟨b0, o0 + k, none⟩ = some (.int .i64 (xs.getD k 0)) := (hb.cell (p := ⟨b0, o0 + k, none⟩) (l0 ⟨b0, o0, none⟩ rfl (by omega))).trans (hc0 k hlt)
      have g1 : wr.cell? ⟨b1, o1 + k, none⟩ = some (.int .i64 (ms.getD k 0)) := (hb.cell (p := ⟨b1, o1 + k, none⟩) (l1 ⟨b1, o1, none⟩ rfl (by omega))).trans (hc1 k hlt)
      have hBs : B ≤ wr.heap.size := by have := hb.size; rw [HB.out]; exact this
      have hi2 : (k : Int) < (n : Int) := by omega
      clear hc0 hc1 l0 l1
      obtain ⟨x, hx⟩ : ∃ x, x = xs.getD k 0 := ⟨_, rfl⟩
      obtain ⟨m, hm⟩ : ∃ m, m = ms.getD k 0 := ⟨_, rfl⟩
      rw [← hx] at g0
      rw [← hm] at g1
      have HP : Hid (pairs xs ms k ++ [.int .i64 x, .int .i64 m] = pairs xs ms (k + 1)) := (by rw [pairs, hx, hm] : pairs xs ms k ++ [.int .i64 x, .int .i64 m] = pairs xs ms (k + 1))
      clear hx hm
      go_wp2
      go_region_law (refine step_append_fits rfl (.tmp 16) (.tmp 26) 29 rfl B 26 i0 2 Try.underlying29 hi hz1 B k n (pairs xs ms k) rfl (by exact (hown.drew.alloc _)) ⟨wr.heap.size, 0, none⟩ 1 1 [.int .i64 x, .int .i64 m] rfl rfl (by exact news_at _ _ _) (by exact news_one _ _) (by omega) ?_; intro w2 hown2 hg2)
      all_goals
        have R : w2.ownsRow B 26 2 (.slice (some ⟨B, 0, none⟩) (k + 1) n) (k + 1) (pairs xs ms (k + 1)) ∧ Below B w w2 :=
          ⟨HP.out ▸ hown2, ((hb.alloc hBs _).drew).grown hg2 (by simp; omega) (fun j hj => by cases hj; exact Nat.le_refl _)⟩
        clear hown2 hg2 hown hb g0 g1
        go_wp2
        go_roundw
        case rel => exact ⟨k + 1, by omega, by go_num, rfl, R.1, R.2⟩
        case measure => simp [intOf]; omega
    · have ek : k = n := by omega
      subst ek
      clear h0 h1 l0 l1
      go_wp2
      go_ret
      have e := HB.out
      exact ⟨ret_slice k k e, by rw [← e]; exact partsAt_of_owns hown, by rw [← e]; exact hb⟩
end Go.Proofs.Qxb6604485a
