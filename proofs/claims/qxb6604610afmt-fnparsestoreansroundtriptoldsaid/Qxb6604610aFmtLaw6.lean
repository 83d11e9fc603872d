/-
  The walk of FnParseStoreAnsExact (6).
-/
import Derived.Test.Qxb6604610aFmtModelOk
import Derived.Test.Qxb6604610aFmtModelNil
namespace Go.Proofs.Qxb6604610aFmt
open Go.RowKit Go.Extern.Stop Go.Stop Go.Extern

set_option maxHeartbeats 1000000 in
theorem bytes25 (a0 : Option Addr) (n0 c0 : Nat) (z : Int) (w : World) (h0 : n0 ≤ maxLen) :
    Calls Tryf.prog 25 #[.slice a0 n0 c0, .int .i64 z] w fun e w' => ∃ r, e = .returned (.bool r) ∧ (n0 ≤ 1048576 → r = true) ∧ w = w' := by
  unfold maxLen at h0
  go_enter Tryf.func25, Tryf.ntmps25
  go_wp2
  all_goals go_ret
  all_goals exact ⟨_, rfl, fun _ => by first | rfl | omega, rfl⟩

set_option maxRecDepth 20000 in
set_option maxHeartbeats 1000000 in
theorem law6_out (a0 : Option Addr) (n0 c0 : Nat) (z : Int) (w : World) (h0 : n0 ≤ maxLen) (h : ¬ n0 ≤ 1048576) :
    Calls Tryf.prog 6 #[.slice a0 n0 c0, .int .i64 z] w fun e w' => e = .returned (.bool true) ∧ Below w.heap.size w w' := by
  have hB := bytes25 a0 n0 c0 z w h0
  unfold maxLen at h0
  go_enter Tryf.func6, Tryf.ntmps6
  go_wp2_with fail
  refine hB.mono ?_
  rintro e w' ⟨r, rfl, _, rfl⟩
  cases r
  · go_wp2
    go_ret
    exact ⟨rfl, Below.refl _ _⟩
  · go_wp2
    go_ret
    exact ⟨rfl, Below.refl _ _⟩
set_option maxRecDepth 20000 in
set_option maxHeartbeats 1000000 in
theorem law6_less (a0 : Option Addr) (n0 c0 : Nat) (z : Int) (w : World) (h : n0 ≤ 1048576) (hz : z < 1) :
    Calls Tryf.prog 6 #[.slice a0 n0 c0, .int .i64 z] w fun e w' => e = .returned (.bool true) ∧ Below w.heap.size w w' := by
  have hB := bytes25 a0 n0 c0 z w (by unfold maxLen; omega)
  have h1 : ¬ (1048576 : Int) < (n0 : Int) := by omega
  go_enter Tryf.func6, Tryf.ntmps6
  go_wp2_with fail
  refine hB.mono ?_
  rintro e w' ⟨r, rfl, hr, rfl⟩
  obtain rfl := hr h
  go_wp2
  go_ret
  exact ⟨rfl, Below.refl _ _⟩

theorem clone_p (a : Option Addr) (n c : Nat) (zs : List Int) (w : World) (hn : n ≤ 2097152) (r : BRow w a n zs) (h0 : a = none → n = 0) :
    Calls Tryf.prog 9 #[.slice a n c] w fun e w' => ∃ a' c' G, e = .returned (.slice a' n c') ∧ Below w.heap.size w w' ∧ (n < 2 ∨ (a' = some ⟨G, 0, none⟩ ∧ c' = n ∧ BRow w' (some ⟨G, 0, none⟩) n zs ∧ G < w'.heap.size)) := by
  cases a with
  | none =>
    obtain rfl := h0 rfl
    refine (clone_none 0 c w).mono ?_
    rintro e w' ⟨rfl, rfl⟩
    exact ⟨none, 0, 0, rfl, Below.refl _ _, Or.inl (by omega)⟩
  | some x =>
    refine (clone_some x n c zs w hn r).mono ?_
    rintro e w' ⟨rfl, hr, hl, hb⟩
    exact ⟨_, n, w.heap.size, rfl, hb, Or.inr ⟨rfl, rfl, hr, hl⟩⟩

theorem model_why (a : Option Addr) (c G n s f : Nat) (zs : List Int) (w : World) (hb : n < 2 ∨ (a = some ⟨G, 0, none⟩ ∧ c = n ∧ BRow w (some ⟨G, 0, none⟩) n zs ∧ G < w.heap.size)) (hz : Bytes zs) (hs : 1 ≤ s) (hn : n ≤ 1048576) (hy : Why zs s n f) :
    Calls Tryf.prog 27 #[.slice a n c, .int .i64 s, .slice none 0 0] w fun e w' => e = .returned (.tuple #[.bool true, .int .i64 f, .bool true]) ∧ Below w.heap.size w w' := by
  rcases hy with ⟨h1, rfl⟩ | ⟨h1, h2, rfl⟩ | ⟨h1, k, h2, h3, h4⟩ | ⟨h1, ⟨k, h2, h3⟩, rfl⟩
  · exact model_short a n c s w h1
  · rcases hb with hb | ⟨rfl, hcn, row, _⟩
    · omega
    · rw [hcn]
      exact model_past G n s _ zs w row hz hn h1 rfl h2
  · rcases hb with hb | ⟨rfl, hcn, row, _⟩
    · omega
    · rw [hcn]
      exact model_loop G n s _ k f zs w row hz hs hn rfl h1 h2 (Or.inl ⟨h3, h4⟩)
  · rcases hb with hb | ⟨rfl, hcn, row, _⟩
    · omega
    · rw [hcn]
      exact model_loop G n s _ k _ zs w row hz hs hn rfl (by omega) h2 (Or.inr ⟨h3, h1, rfl⟩)

set_option maxRecDepth 20000 in
set_option maxHeartbeats 4000000 in
theorem law6_in (a0 : Option Addr) (n c0 s : Nat) (zs : List Int) (w : World) (hn : n ≤ 1048576) (hs : 1 ≤ s) (row : BRow w a0 n zs) (h0 : a0 = none → n = 0) (hz : Bytes zs) :
    Calls Tryf.prog 6 #[.slice a0 n c0, .int .i64 s] w fun e w' => e = .returned (.bool true) ∧ Below w.heap.size w w' := by
  have hB := bytes25 a0 n c0 s w (by unfold maxLen; omega)
  have hQ := clone_p a0 n c0 zs w (by omega) row h0
  have h1 : ¬ (1048576 : Int) < (n : Int) := by omega
  have h2 : ¬ (s : Int) < 1 := by omega
  clear row
  go_enter Tryf.func6, Tryf.ntmps6
  go_wp2_with (go_at_call 25; refine hB.mono ?_; rintro e w' ⟨r, rfl, hr, rfl⟩; obtain rfl := hr hn)
  refine hQ.mono ?_
  rintro e wA ⟨a', c', G, rfl, bA, hb⟩
  have hP := parse26 a' c' G n s zs wA hb hz hs (by omega)
  clear hB hQ
  have HBB : Hid _ := hb
  clear hb
  go_wp2_with fail
  refine hP.mono ?_
  rintro e wP ⟨bP, hP2⟩
  have bP' : Below w.heap.size w wP := bA.trans (bP.mono bA.size)
  rcases hP2 with ⟨ka, m, kc, rvs, rfl, hn2, hW⟩ | ⟨f, rfl, hy⟩
  · have b1 : Below wP.heap.size wP (wP.alloc (.cells #[.slice ka m kc] 47)) := (Below.refl _ _).alloc (Nat.le_refl _) _
    have b2 : Below w.heap.size w (wP.alloc (.cells #[.slice ka m kc] 47)) := bP'.trans (b1.mono bP'.size)
    have hM : Calls Tryf.prog 27 #[.slice a' n c', .int .i64 s, .slice ka m kc] (wP.alloc (.cells #[.slice ka m kc] 47)) fun e w' => e = .returned (.tuple #[.bool false, .int .i64 (-1), .bool true]) ∧ Below (wP.alloc (.cells #[.slice ka m kc] 47)).heap.size (wP.alloc (.cells #[.slice ka m kc] 47)) w' := by
      rcases HBB.out with hb | ⟨rfl, hcn, row, _⟩
      · omega
      · rw [hcn]
        exact model_ok G n s m _ kc _ ka zs _ rvs ((row.below bP).below b1) hz hs hn rfl hn2 (hW.frame (Frame.of_below (S := fun _ => False) b1) (fun _ _ => id))
    have cK : (wP.alloc (.cells #[.slice ka m kc] 47)).cell? ⟨wP.heap.size, 0, none⟩ = some (.slice ka m kc) := (cell_of_row _ _ 0 _ 47 (0, 0) (heap_alloc_new wP _)).trans rfl
    have HB2 : Hid _ := b2
    clear hP hW b1 b2 bP bP' bA hn2
    go_wp2_with (go_at_call 27; refine hM.mono ?_; rintro e wX ⟨rfl, bX⟩)
    go_ret
    exact ⟨rfl, HB2.out.trans (bX.mono HB2.out.size)⟩
  · have b1 : Below wP.heap.size wP (wP.alloc (.cells #[.slice none 0 0] 47)) := (Below.refl _ _).alloc (Nat.le_refl _) _
    have b2 : Below w.heap.size w (wP.alloc (.cells #[.slice none 0 0] 47)) := bP'.trans (b1.mono bP'.size)
    have hM := model_why a' c' G n s f zs (wP.alloc (.cells #[.slice none 0 0] 47)) (HBB.out.imp id (fun ⟨i1, i2, i3, i4⟩ => ⟨i1, i2, (i3.below bP).below b1, by have := bP.size; simp; omega⟩)) hz hs hn hy
    have cK : (wP.alloc (.cells #[.slice none 0 0] 47)).cell? ⟨wP.heap.size, 0, none⟩ = some (.slice none 0 0) := (cell_of_row _ _ 0 _ 47 (0, 0) (heap_alloc_new wP _)).trans rfl
    have HB2 : Hid _ := b2
    clear hP b1 b2 bP bP' bA hy
    go_wp2_with (go_at_call 27; refine hM.mono ?_; rintro e wX ⟨rfl, bX⟩)
    go_ret
    exact ⟨by simp, HB2.out.trans (bX.mono HB2.out.size)⟩

theorem law6 (a0 : Option Addr) (n c0 : Nat) (z : Int) (zs : List Int) (w : World) (hm : n ≤ maxLen) (row : BRow w a0 n zs) (h0 : a0 = none → n = 0) (hz : Bytes zs) :
    Calls Tryf.prog 6 #[.slice a0 n c0, .int .i64 z] w fun e w' => e = .returned (.bool true) ∧ Below w.heap.size w w' := by
  by_cases hn : n ≤ 1048576
  · by_cases h1 : z < 1
    · exact law6_less a0 n c0 z w hn h1
    · obtain ⟨s, rfl⟩ := Int.eq_ofNat_of_zero_le (show 0 ≤ z by omega)
      exact law6_in a0 n c0 s zs w hn (by omega) row h0 hz
  · exact law6_out a0 n c0 z w hm hn
end Go.Proofs.Qxb6604610aFmt
