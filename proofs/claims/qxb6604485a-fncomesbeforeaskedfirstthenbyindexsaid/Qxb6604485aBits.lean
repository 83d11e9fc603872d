/-
  Small contracts that the three laws share: the bounds on lengths (8, 16, 20), a row copied, the parts' accessors (11, 13, 14, 15).
-/
import Derived.Test.Qxb6604485aOf
import Derived.Laws.CopyOwn
import Derived.Deep.DeepCutAuto
namespace Go.Proofs.Qxb6604485a
open Go.RowKit

theorem Try.info2 : (Try.prog.info? 2).map (fun i => (i.zero, i.size, i.bytes)) = some (some (.int .i64 0), 1, 8) := by kernel_rfl

/-! ### the bounds on lengths -/
set_option maxHeartbeats 1000000 in
theorem bytes8 (a0 a1 : Option Addr) (n0 c0 n1 c1 : Nat) (k : Int) (w : World) (h0 : n0 ≤ maxLen) (h1 : n1 ≤ maxLen) :
    Calls Try.prog 8 #[.slice a0 n0 c0, .slice a1 n1 c1, .int .i64 k] w fun e w' => ∃ r, e = .returned (.bool r) ∧ (n0 ≤ 65536 → n1 ≤ 65536 → r = true) ∧ w = w' := by
  unfold maxLen at h0 h1
  go_enter Try.func8, Try.ntmps8
  go_wp2
  all_goals go_ret
  all_goals exact ⟨_, rfl, fun _ _ => by first | rfl | omega, rfl⟩

set_option maxHeartbeats 1000000 in
theorem bytes16 (a0 a1 : Option Addr) (n0 c0 n1 c1 : Nat) (q : Bool) (k l : Int) (w : World) (h0 : n0 ≤ maxLen) (h1 : n1 ≤ maxLen) :
    Calls Try.prog 16 #[.slice a0 n0 c0, .slice a1 n1 c1, .bool q, .int .i64 k, .int .i64 l] w fun e w' => ∃ r, e = .returned (.bool r) ∧ (n0 ≤ 65536 → n1 ≤ 65536 → r = true) ∧ w = w' := by
  unfold maxLen at h0 h1
  go_enter Try.func16, Try.ntmps16
  go_wp2
  all_goals go_ret
  all_goals exact ⟨_, rfl, fun _ _ => by first | rfl | omega, rfl⟩

set_option maxHeartbeats 1000000 in
theorem bytes20 (a0 a1 : Option Addr) (n0 c0 n1 c1 : Nat) (k l m : Int) (w : World) (h0 : n0 ≤ maxLen) (h1 : n1 ≤ maxLen) :
    Calls Try.prog 20 #[.slice a0 n0 c0, .slice a1 n1 c1, .int .i64 k, .int .i64 l, .int .i64 m] w fun e w' => ∃ r, e = .returned (.bool r) ∧ (n0 ≤ 65536 → n1 ≤ 65536 → r = true) ∧ w = w' := by
  unfold maxLen at h0 h1
  go_enter Try.func20, Try.ntmps20
  go_wp2
  all_goals go_ret
  all_goals exact ⟨_, rfl, fun _ _ => by first | rfl | omega, rfl⟩

/-! ### a row copied -/
theorem splice_all {α : Type} (L cs : List α) (h : cs.length = L.length) : splice L 0 cs = cs := by
  simp [splice, h]
theorem rowAt_of_block {w : World} {g n : Nat} {zs : List Int} (hz : n ≤ zs.length) {e : TypeId} (h : w.heap[g]? = some (.cells ((zs.take n).map (Value.int .i64)).toArray e (0, 0))) : RowAt w (some ⟨g, 0, none⟩) n zs := by
  refine ⟨hz, fun _ => ⟨g, 0, rfl, fun i hi => ?_⟩⟩
  rw [Nat.zero_add, cell_of_row w g i _ e (0, 0) h]
  simp only [List.getElem?_toArray, List.getElem?_map, List.getElem?_take, if_pos hi]
  rw [List.getElem?_eq_getElem (by omega), List.getD_eq_getElem?_getD, List.getElem?_eq_getElem (by omega)]
  rfl

theorem RowAt.below {w w' : World} {a : Option Addr} {n : Nat} {zs : List Int} (h : RowAt w a n zs) (hb : Below w.heap.size w w') : RowAt w' a n zs := by
  refine ⟨h.1, fun hn => ?_⟩
  obtain ⟨b, off, rfl, hc⟩ := h.2 hn
  exact ⟨b, off, rfl, fun i hi => (hb.cell (p := ⟨b, off + i, none⟩) (World.block_lt_of_cell? _ _ (hc i hi))).trans (hc i hi)⟩
theorem RowAt.lt {w : World} {a : Option Addr} {n : Nat} {zs : List Int} (h : RowAt w a n zs) : ∀ x, a = some x → 0 < n → x.block < w.heap.size := by
  intro x hx hn
  obtain ⟨b, off, rfl, hc⟩ := h.2 hn
  cases hx
  exact World.block_lt_of_cell? _ _ (hc 0 hn)

/-- 'copy(zzc, xs)' into a row just made, as long as xs. -/
theorem wpList_copyRow {w : World} {ops : Array Oper} {rest : List Oper} {o : Oper} {a : Act} {Q : Exit → Act → World → Prop} (hgd : o.guard = none) (d s : Operand)
    (ho : o.op = .call { callee := .builtin .copy, args := #[d, s], argTypes := #[22, 22] }) (g n c : Nat) (x : Option Addr) (hd : a.eval d = .slice (some ⟨g, 0, none⟩) n n) (hs : a.eval s = .slice x n c)
    (zs : List Int) (W0 : World) (hr : RowAt W0 x n zs) (base : Nat) (cur : List Value) (hown : w.ownsRow base 2 1 (.slice (some ⟨g, 0, none⟩) n n) n cur) (hb : Below W0.heap.size W0 w) (hg : W0.heap.size ≤ g)
    (h : ∀ w', RowAt w' (some ⟨g, 0, none⟩) n zs → Below W0.heap.size W0 w' → wpList Try.prog ops Q rest (a.put o.dst (goInt n)) w') :
    wpList Try.prog ops Q (o :: rest) a w := by
  have hrw := hr.below hb
  have hlen : ((zs.take n).map (Value.int .i64)).length = n := by simp; have := hr.1; omega
  rcases hown.2 with ⟨h', _⟩ | ⟨g', cap', cur', h', _, hgg, _, _, hsz, _⟩
  · simp at h'
  · simp only [Value.slice.injEq, Option.some.injEq, Addr.mk.injEq, and_true, true_and] at h'
    obtain ⟨rfl, rfl⟩ := h'
    refine wpList_copy_splice hgd d s 22 22 ho 2 Try.underlying22 (by kernel_rfl) (some ⟨g, 0, none⟩) x n n n c hd hs g 0 cur'.toList 2 (by simpa using hgg) ((zs.take n).map (Value.int .i64)) (by rw [hlen]; simp) ?_ (by simp; omega) ?_ W0.heap.size W0 hb hg ?_
    · intro h0
      refine ⟨rfl, ?_⟩
      obtain ⟨b, off, rfl, hc⟩ := hrw.2 (by omega)
      refine ⟨⟨b, off, none⟩, rfl, fun j v hj => ?_⟩
      have hjn : j < n := by
        rcases Nat.lt_or_ge j n with h | h
        · exact h
        · rw [List.getElem?_eq_none (by omega)] at hj; simp at hj
      have e1 : (⟨b, off, none⟩ : Addr).add j = ⟨b, off + j, none⟩ := by unfold Addr.add; split <;> simp_all
      rw [e1, hc j hjn]
      simp only [List.getElem?_map, List.getElem?_take, if_pos hjn] at hj
      rw [List.getElem?_eq_getElem (by have := hr.1; omega)] at hj
      simp only [Option.map_some, Option.some.injEq] at hj
      rw [← hj, List.getD_eq_getElem?_getD, List.getElem?_eq_getElem (by have := hr.1; omega)]
      rfl
    · intro v hv
      simp only [List.mem_map] at hv
      obtain ⟨z, _, rfl⟩ := hv
      rfl
    · intro w2 HG hb2
      have hgg2 := HG.out
      rw [splice_all _ _ (by rw [hlen, Array.length_toList, hsz]; omega)] at hgg2
      rw [hlen]
      exact h w2 (rowAt_of_block hr.1 hgg2) hb2

/-! ### the parts' accessors -/
set_option maxHeartbeats 1000000 in
theorem empty_any (k m : Int) (w : World) :
    Calls Try.prog 13 #[.agg #[.int .i64 k, .int .i64 m]] w fun e w' => e = .returned (.bool (m == 0)) ∧ Below w.heap.size w w' := by
  go_enter Try.func13, Try.ntmps13
  go_wp2
  go_ret
  exact ⟨rfl, ((Below.refl _ _).alloc (Nat.le_refl _) _).alloc (by simp) _⟩
theorem index_any (k m : Int) (w : World) :
    Calls Try.prog 14 #[.agg #[.int .i64 k, .int .i64 m]] w fun e w' => e = .returned (.int .i64 k) ∧ Below w.heap.size w w' := by
  go_enter Try.func14, Try.ntmps14
  go_wp2
  go_ret
  exact ⟨rfl, (Below.refl _ _).alloc (Nat.le_refl _) _⟩
theorem milli_any (k m : Int) (w : World) :
    Calls Try.prog 15 #[.agg #[.int .i64 k, .int .i64 m]] w fun e w' => e = .returned (.int .i64 m) ∧ Below w.heap.size w w' := by
  go_enter Try.func15, Try.ntmps15
  go_wp2
  go_ret
  exact ⟨rfl, (Below.refl _ _).alloc (Nat.le_refl _) _⟩

set_option maxHeartbeats 1000000 in
theorem partsOf_any (b n : Nat) (key k m : Int) (w : World)
    (hc : ∀ W, Below w.heap.size w W → Calls Try.prog 30 #[.slice (some ⟨b, 0, none⟩) n n, .int .i64 key] W fun e w' => e = .returned (.agg #[.int .i64 k, .int .i64 m]) ∧ Below W.heap.size W w') :
    Calls Try.prog 11 #[.slice (some ⟨b, 0, none⟩) n n, .int .i64 key] w fun e w' => e = .returned (.agg #[.int .i64 k, .int .i64 m]) ∧ Below w.heap.size w w' := by
  have hc1 := hc _ ((Below.refl w.heap.size w).alloc (Nat.le_refl _) (.cells #[.int .i64 0, .int .i64 0] 26))
  clear hc
  go_enter Try.func11, Try.ntmps11
  go_wp2_with fail
  refine hc1.mono ?_
  rintro e w1 ⟨rfl, hb⟩
  have hz : w.heap.size < w1.heap.size := by have := hb.size; simp at this; omega
  obtain ⟨r0, r1, f0, f1⟩ := slot_facts hb
  have hbe := slot_below hb
  clear hc1 hb
  go_wp2
  exact bodyPost_ret (v := .agg #[.int .i64 k, .int .i64 m]) (by simp [results, Try.results11, go_sem, r0, r1]) rfl ⟨rfl, (hbe.setCell (Nat.le_refl _) _).setCell (Nat.le_refl _) _⟩
end Go.Proofs.Qxb6604485a
