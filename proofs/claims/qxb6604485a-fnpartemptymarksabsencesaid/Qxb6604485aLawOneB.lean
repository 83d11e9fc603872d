/-
  The walk of FnPartEmptyMarksAbsence (3).
-/
import Derived.Test.Qxb6604485aLawOne
import Derived.Deep.DeepMust
namespace Go.Proofs.Qxb6604485a
open Go.RowKit

theorem nz_at {zs : List Int} {n : Nat} (h : nzB zs n = true) {i : Nat} (hi : i < n) : zs.getD i 0 ≠ 0 := by
  intro e
  rw [nzB_false_of hi e] at h
  cases h
theorem ne_before {xs : List Int} {n k p : Nat} {key : Int} (h : ascB xs n = true) (hk : k < p) (hp : p < n) (hx : xs.getD p 0 = key) : (xs.getD k 0 == key) = false := by
  have h1 := asc_lt h k p hk hp
  have h2 : xs.getD k 0 ≠ key := by omega
  simpa using h2
theorem emptyX (k m : Int) (w : World) :
    Calls Try.prog 13 #[.agg #[.int .i64 k, .int .i64 m]] w fun e w' => e = .returned (.bool (m == 0)) ∧ w' = (w.alloc (.cells #[.int .i64 k, .int .i64 m] 26)).alloc (.cells #[.int .i64 k, .int .i64 m] 26) := by
  go_enter Try.func13, Try.ntmps13
  go_wp2
  go_ret
  exact ⟨rfl, rfl⟩
theorem indexX (k m : Int) (w : World) :
    Calls Try.prog 14 #[.agg #[.int .i64 k, .int .i64 m]] w fun e w' => e = .returned (.int .i64 k) ∧ w' = w.alloc (.cells #[.int .i64 k, .int .i64 m] 26) := by
  go_enter Try.func14, Try.ntmps14
  go_wp2
  go_ret
  exact ⟨rfl, rfl⟩
theorem milliX (k m : Int) (w : World) :
    Calls Try.prog 15 #[.agg #[.int .i64 k, .int .i64 m]] w fun e w' => e = .returned (.int .i64 m) ∧ w' = w.alloc (.cells #[.int .i64 k, .int .i64 m] 26) := by
  go_enter Try.func15, Try.ntmps15
  go_wp2
  go_ret
  exact ⟨rfl, rfl⟩

set_option maxRecDepth 20000 in
set_option maxHeartbeats 2000000 in
theorem one_present (a0 a1 : Option Addr) (n c0 c1 p : Nat) (xs ms : List Int) (key : Int) (w : World) (hn : n ≤ 65536) (r0 : RowAt w a0 n xs) (r1 : RowAt w a1 n ms)
    (HA : Hid (ascB xs n = true)) (HZ : Hid (nzB ms n = true)) (hp : p < n) (hx : xs.getD p 0 = key) :
    Calls Try.prog 3 #[.slice a0 n c0, .slice a1 n c1, .int .i64 key] w fun e w' => e = .returned (.bool true) ∧ Below w.heap.size w w' := by
  have hB := bytes8 a0 a1 n c0 n c1 key w (by unfold maxLen; omega) (by unfold maxLen; omega)
  have hA := asc_any a0 n c0 xs w hn r0
  have hZ := fun q => nz_any a1 n c1 ms (w.drewN q) hn r1
  rw [HA.out] at hA
  rw [HZ.out] at hZ
  have HX : Hid (xs.getD p 0 = key) := hx
  clear hx
  obtain ⟨m, hm⟩ : ∃ m, m = ms.getD p 0 := ⟨_, rfl⟩
  have HM : Hid (ms.getD p 0 = m) := hm.symm
  have hm0 : (m == 0) = false := by
    have := nz_at HZ.out hp
    rw [hm]; simpa using this
  clear hm
  have hnl := fun w a c => run_neq_slice_nil_any (P := Try.prog) w 22 2 a n c 0 0 Try.underlying22
  obtain ⟨i0, hi, hz0, hz1, hz2⟩ := info_parts Try.info2
  go_enter Try.func3, Try.ntmps3
  go_upto_if 41 with (first | (go_at_call 8; refine hB.mono ?_; rintro e w' ⟨r, rfl, hr, rfl⟩; obtain rfl := hr hn hn) | (go_at_call 9; refine hA.mono ?_; rintro e w' ⟨rfl, q, rfl⟩) | (go_at_call 10; refine (hZ _).mono ?_; rintro e w' ⟨rfl, rfl⟩))
  clear hB hA hZ
  go_cut [0] (fun s wc => Kept w wc s n xs)
  case first =>
    cases a0 with
    | none =>
      go_wp2
      go_meet
      case rel => exact ⟨none, c0, rfl, r0, below_drewN (Below.refl _ _) _⟩
    | some x =>
      go_wp2_with (first
        | (at_make; refine wpList_make_full _ rfl _ _ 22 rfl w.heap.size 2 i0 _ 1 Try.underlying22 hi hz0 hz1 .i64 .i64 _ _ n rfl rfl rfl rfl (by rw [hz2]; omega) (by unfold maxLen; omega) (by simp) ?_; intro w1 hown1 hg1)
        | (refine wpList_copyRow rfl (.tmp 45) (.tmp 46) rfl w.heap.size n c0 (some x) rfl rfl xs (w.drewN q) (r0.drewN q) w.heap.size _ (by exact hown1) (by exact (Below.refl _ _).grown hg1 (Nat.le_refl _) (fun k h => by cases h)) (Nat.le_refl _) ?_; intro w2 hr2 hb2))
      go_meet
      case rel => exact ⟨_, n, rfl, hr2, (below_drewN (Below.refl _ _) q).trans hb2⟩
  case rest =>
    rename World => wA
    obtain ⟨a0', c0', rfl, r0', hb0⟩ := hcut
    clear r0
    go_upto_if 50 with fail
    have r1c := r1.below hb0
    go_cut [1] (fun s wc2 => Kept wA wc2 s n ms)
    case first =>
      cases a1 with
      | none =>
        go_wp2
        go_meet
        case rel => exact ⟨none, c1, rfl, r1c, Below.refl _ _⟩
      | some x =>
        go_wp2_with (first
          | (at_make; refine wpList_make_full _ rfl _ _ 22 rfl wA.heap.size 2 i0 _ 1 Try.underlying22 hi hz0 hz1 .i64 .i64 _ _ n rfl rfl rfl rfl (by rw [hz2]; omega) (by unfold maxLen; omega) (Nat.le_refl _) ?_; intro w1 hown1 hg1)
          | (refine wpList_copyRow rfl (.tmp 54) (.tmp 55) rfl wA.heap.size n c1 (some x) rfl rfl ms wA r1c wA.heap.size _ (by exact hown1) (by exact (Below.refl _ _).grown hg1 (Nat.le_refl _) (fun k h => by cases h)) (Nat.le_refl _) ?_; intro w2 hr2 hb2))
        go_meet
        case rel => exact ⟨_, n, rfl, hr2, hb2⟩
    case rest =>
      rename World => wB
      obtain ⟨a1', c1', rfl, r1', hb1⟩ := hcut
      have r0b := r0'.below hb1
      have hbB : Below w.heap.size w wB := hb0.trans (hb1.mono hb0.size)
      clear r1 r1c r0' hb0 hb1 hnl
      have hP := newParts_any a0' a1' n c0' c1' xs ms wB hn r0b r1' r0b.lt r1'.lt
      go_wp2_with fail
      refine hP.mono ?_
      rintro e wC ⟨rfl, hPC, hbC⟩
      have hO := partsOf_any wB.heap.size n key key m wC (fun W hW => HM.out ▸ of_at wB.heap.size n n p xs ms key W hn (hPC.below hW hPC.1) HA hp HX.out)
      have r0c := r0b.below hbC
      have r1c := r1'.below hbC
      have hbC' : Below w.heap.size w wC := hbB.trans (hbC.mono hbB.size)
      clear hP r0b r1' hbB hbC hPC
      go_wp2_with (go_at_call 11; refine hO.mono ?_; rintro e wD ⟨rfl, hbD⟩)
      have r0d := r0c.below hbD
      have r1d := r1c.below hbD
      have hbD' : Below w.heap.size w wD := hbC'.trans (hbD.mono hbC'.size)
      clear hO r0c r1c hbC' hbD
      have hsl := new_slot wD key m
      have r0e := r0d.below (hsl.2.2)
      have r1e := r1d.below (hsl.2.2)
      have hbE : Below w.heap.size w _ := hbD'.trans (hsl.2.2.mono hbD'.size)
      have hlt : wD.heap.size < (wD.alloc (.cells #[.int .i64 key, .int .i64 m] 26)).heap.size := by simp
      obtain ⟨wE, hE⟩ : ∃ wE, wE = wD.alloc (.cells #[.int .i64 key, .int .i64 m] 26) := ⟨_, rfl⟩
      obtain ⟨B, hBe⟩ : ∃ B, B = wD.heap.size := ⟨_, rfl⟩
      rw [← hE] at hsl r0e r1e hbE hlt ⊢
      rw [← hBe] at hsl hlt ⊢
      obtain ⟨s0, s1, -⟩ := hsl
      clear hE hBe r0d r1d hbD'
      obtain ⟨b, off, rfl, hc⟩ := r0e.2 (by omega)
      obtain ⟨b1, off1, rfl, hc1⟩ := r1e.2 (by omega)
      have m0 := hc1 p hp
      rw [HM.out] at m0
      have hb1 : b1 < wE.heap.size := World.block_lt_of_cell? _ _ m0
      have HC : Hid (∀ i, i < n → wE.cell? ⟨b, off + i, none⟩ = some (.int .i64 (xs.getD i 0))) := hc
      have hsz : w.heap.size ≤ wE.heap.size := hbE.size
      clear hc hc1 r0e r1e
      go_loop [10, 11] (fun f i => ∃ k : Nat, k ≤ p ∧ f = .int .i64 (-1) ∧ i = .int .i64 k) (fun _ i => n + 1 - (intOf i).toNat)
      case atStart => exact ⟨0, Nat.zero_le _, rfl, rfl⟩
      case round =>
        obtain ⟨k, hk, rfl, rfl⟩ := hrel
        have hkn : k < n := by omega
        have g0 := HC.out k hkn
        by_cases hkp : k < p
        · have hne := ne_before HA.out hkp hp HX.out
          generalize xs.getD k 0 = z at g0 hne
          go_wp2
          go_round
          case rel => exact ⟨k + 1, by omega, rfl, by go_num⟩
          case measure => simp [intOf]; omega
        · obtain rfl : k = p := by omega
          rw [HX.out] at g0
          have hkz : (k : Int) < (n : Int) := by omega
          have hl1 : B < wE.heap.size + 1 := by omega
          have hl2 : B < wE.heap.size + 1 + 1 := by omega
          have hl3 : B < wE.heap.size + 1 + 1 + 1 := by omega
          have hj1 : b1 < wE.heap.size + 1 := by omega
          have hj2 : b1 < wE.heap.size + 1 + 1 := by omega
          have hj3 : b1 < wE.heap.size + 1 + 1 + 1 := by omega
          go_wp2_with fail
          go_region_with (first | (go_at_call 13; refine (emptyX _ _ _).mono ?_; rintro e w' ⟨rfl, rfl⟩) | (go_at_call 14; refine (indexX _ _ _).mono ?_; rintro e w' ⟨rfl, rfl⟩) | (go_at_call 15; refine (milliX _ _ _).mono ?_; rintro e w' ⟨rfl, rfl⟩))
          all_goals go_wp2
          all_goals go_ret
          all_goals exact ⟨by first | rfl | simp, ((((hbE.alloc hsz _).alloc (by simp; omega) _).alloc (by simp; omega) _).alloc (by simp; omega) _).drew⟩

end Go.Proofs.Qxb6604485a
