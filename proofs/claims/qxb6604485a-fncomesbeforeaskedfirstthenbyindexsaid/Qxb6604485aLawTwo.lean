/-
  The walk of FnComesBeforeAskedFirstThenByIndex (4).
-/
import Derived.Test.Qxb6604485aBits
namespace Go.Proofs.Qxb6604485a
open Go.RowKit

set_option maxHeartbeats 1000000 in
/-- Whatever stands outside the law's own guards: true. -/
theorem two_out (a0 a1 : Option Addr) (n0 c0 n1 c1 : Nat) (qf : Bool) (x y : Int) (w : World) (h0 : n0 ≤ maxLen) (h1 : n1 ≤ maxLen) (h : ¬ (n0 ≤ 65536 ∧ n1 ≤ 65536)) :
    Calls Try.prog 4 #[.slice a0 n0 c0, .slice a1 n1 c1, .bool qf, .int .i64 x, .int .i64 y] w fun e w' => e = .returned (.bool true) ∧ Below w.heap.size w w' := by
  have hB := bytes16 a0 a1 n0 c0 n1 c1 qf x y w h0 h1
  unfold maxLen at h0 h1
  go_enter Try.func4, Try.ntmps4
  go_wp2_with fail
  refine hB.mono ?_
  rintro e w' ⟨r, rfl, _, rfl⟩
  cases r
  · go_wp2
    go_ret
    exact ⟨rfl, Below.refl _ _⟩
  · by_cases hn0 : n0 ≤ 65536
    · have hn1 : ¬ n1 ≤ 65536 := fun x => h ⟨hn0, x⟩
      go_wp2
      go_ret
      exact ⟨rfl, Below.refl _ _⟩
    · go_wp2
      go_ret
      exact ⟨rfl, Below.refl _ _⟩

set_option maxHeartbeats 1000000 in
theorem two_unfit (a0 a1 : Option Addr) (n0 c0 n1 c1 : Nat) (xs ms : List Int) (qf : Bool) (x y : Int) (w : World) (h0 : n0 ≤ 65536) (h1 : n1 ≤ 65536) (r0 : RowAt w a0 n0 xs) (r1 : RowAt w a1 n1 ms)
    (h : ¬ (n0 = n1 ∧ ascB xs n0 = true ∧ nzB ms n1 = true)) :
    Calls Try.prog 4 #[.slice a0 n0 c0, .slice a1 n1 c1, .bool qf, .int .i64 x, .int .i64 y] w fun e w' => e = .returned (.bool true) ∧ Below w.heap.size w w' := by
  have hB := bytes16 a0 a1 n0 c0 n1 c1 qf x y w (by unfold maxLen; omega) (by unfold maxLen; omega)
  have hA := asc_any a0 n0 c0 xs w h0 r0
  have hZ := fun q => nz_any a1 n1 c1 ms (w.drewN q) h1 r1
  clear r0 r1
  by_cases e : n0 = n1
  · subst e
    cases ha : ascB xs n0
    · rw [ha] at hA
      clear h ha
      go_enter Try.func4, Try.ntmps4
      go_wp2_with (first | (go_at_call 16; refine hB.mono ?_; rintro e w' ⟨r, rfl, hr, rfl⟩; obtain rfl := hr h0 h1) | (go_at_call 9; refine hA.mono ?_; rintro e w' ⟨rfl, q, rfl⟩))
      go_ret
      exact ⟨rfl, below_drewN (Below.refl _ _) _⟩
    · rw [ha] at hA
      have hz : nzB ms n0 = false := by
        cases hz : nzB ms n0
        · rfl
        · exact absurd ⟨rfl, ha, hz⟩ h
      rw [hz] at hZ
      clear h ha hz
      go_enter Try.func4, Try.ntmps4
      go_wp2_with (first | (go_at_call 16; refine hB.mono ?_; rintro e w' ⟨r, rfl, hr, rfl⟩; obtain rfl := hr h0 h1) | (go_at_call 9; refine hA.mono ?_; rintro e w' ⟨rfl, q, rfl⟩) | (go_at_call 10; refine (hZ _).mono ?_; rintro e w' ⟨rfl, rfl⟩))
      go_ret
      exact ⟨rfl, below_drewN (Below.refl _ _) _⟩
  · have e' : ¬ (n0 : Int) = (n1 : Int) := by omega
    clear hA hZ h
    go_enter Try.func4, Try.ntmps4
    go_wp2_with (first | (go_at_call 16; refine hB.mono ?_; rintro e w' ⟨r, rfl, hr, rfl⟩; obtain rfl := hr h0 h1))
    go_ret
    exact ⟨rfl, Below.refl _ _⟩

/-- What is known of a row behind the law's own copy. -/
def Kept2 (w wc : World) (s : Value) (n : Nat) (zs : List Int) : Prop :=
  ∃ a c, s = .slice a n c ∧ RowAt wc a n zs ∧ Below w.heap.size w wc

theorem cbB_eq {pa pb x y : Int} {p q : Bool} (h1 : decide (0 < pa) = p) (h2 : decide (0 < pb) = q) : cbB pa pb x y = if p != q then p else decide (x < y) := by
  unfold cbB; rw [h1, h2]

set_option maxRecDepth 20000 in
set_option maxHeartbeats 2000000 in
theorem two_nil (a0 a1 : Option Addr) (n c0 c1 : Nat) (xs ms : List Int) (x y : Int) (w : World) (hn : n ≤ 65536) (r0 : RowAt w a0 n xs) (r1 : RowAt w a1 n ms)
    (HA : Hid (ascB xs n = true)) (HZ : Hid (nzB ms n = true)) :
    Calls Try.prog 4 #[.slice a0 n c0, .slice a1 n c1, .bool true, .int .i64 x, .int .i64 y] w fun e w' => e = .returned (.bool true) ∧ Below w.heap.size w w' := by
  have hB := bytes16 a0 a1 n c0 n c1 true x y w (by unfold maxLen; omega) (by unfold maxLen; omega)
  have hA := asc_any a0 n c0 xs w hn r0
  have hZ := fun q => nz_any a1 n c1 ms (w.drewN q) hn r1
  rw [HA.out] at hA
  rw [HZ.out] at hZ
  have hnl := fun w a c => run_neq_slice_nil_any (P := Try.prog) w 22 2 a n c 0 0 Try.underlying22
  obtain ⟨i0, hi, hz0, hz1, hz2⟩ := info_parts Try.info2
  go_enter Try.func4, Try.ntmps4
  go_upto_if 48 with (first | (go_at_call 16; refine hB.mono ?_; rintro e w' ⟨r, rfl, hr, rfl⟩; obtain rfl := hr hn hn) | (go_at_call 9; refine hA.mono ?_; rintro e w' ⟨rfl, q, rfl⟩) | (go_at_call 10; refine (hZ _).mono ?_; rintro e w' ⟨rfl, rfl⟩))
  clear hB hA hZ
  go_cut [0] (fun s wc => Kept2 w wc s n xs)
  case first =>
    cases a0 with
    | none =>
      go_wp2
      go_meet
      case rel => exact ⟨none, c0, rfl, r0, below_drewN (Below.refl _ _) _⟩
    | some ad =>
      go_wp2_with (first
        | (at_make; refine wpList_make_full _ rfl _ _ 22 rfl w.heap.size 2 i0 _ 1 Try.underlying22 hi hz0 hz1 .i64 .i64 _ _ n rfl rfl rfl rfl (by rw [hz2]; omega) (by unfold maxLen; omega) (by simp) ?_; intro w1 hown1 hg1)
        | (refine wpList_copyRow rfl (.tmp 52) (.tmp 53) rfl w.heap.size n c0 (some ad) rfl rfl xs (w.drewN q) (r0.drewN q) w.heap.size _ (by exact hown1) (by exact (Below.refl _ _).grown hg1 (Nat.le_refl _) (fun k h => by cases h)) (Nat.le_refl _) ?_; intro w2 hr2 hb2))
      go_meet
      case rel => exact ⟨_, n, rfl, hr2, (below_drewN (Below.refl _ _) q).trans hb2⟩
  case rest =>
    rename World => wA
    obtain ⟨a0', c0', rfl, r0', hb0⟩ := hcut
    clear r0
    go_upto_if 57 with fail
    have r1c := r1.below hb0
    go_cut [1] (fun s wc2 => Kept2 wA wc2 s n ms)
    case first =>
      cases a1 with
      | none =>
        go_wp2
        go_meet
        case rel => exact ⟨none, c1, rfl, r1c, Below.refl _ _⟩
      | some ad =>
        go_wp2_with (first
          | (at_make; refine wpList_make_full _ rfl _ _ 22 rfl wA.heap.size 2 i0 _ 1 Try.underlying22 hi hz0 hz1 .i64 .i64 _ _ n rfl rfl rfl rfl (by rw [hz2]; omega) (by unfold maxLen; omega) (Nat.le_refl _) ?_; intro w1 hown1 hg1)
          | (refine wpList_copyRow rfl (.tmp 61) (.tmp 62) rfl wA.heap.size n c1 (some ad) rfl rfl ms wA r1c wA.heap.size _ (by exact hown1) (by exact (Below.refl _ _).grown hg1 (Nat.le_refl _) (fun k h => by cases h)) (Nat.le_refl _) ?_; intro w2 hr2 hb2))
        go_meet
        case rel => exact ⟨_, n, rfl, hr2, hb2⟩
    case rest =>
      rename World => wB
      obtain ⟨a1', c1', rfl, r1', hb1⟩ := hcut
      have r0b := r0'.below hb1
      have hbB : Below w.heap.size w wB := hb0.trans (hb1.mono hb0.size)
      clear r1 r1c r0' hb0 hb1 hnl
      have hC := before_nil x y wB
      have hcb : cbB 0 0 x y = decide (x < y) := by simp [cbB]
      rw [hcb] at hC
      clear hcb r0b r1'
      go_wp2_with (go_at_call 19; refine hC.mono ?_; rintro e w' ⟨rfl, rfl⟩)
      go_ret
      exact ⟨by first | rfl | simp, hbB⟩

set_option maxRecDepth 20000 in
set_option maxHeartbeats 2000000 in
theorem two_main (a0 a1 : Option Addr) (n c0 c1 : Nat) (xs ms : List Int) (x y : Int) (w : World) (hn : n ≤ 65536) (r0 : RowAt w a0 n xs) (r1 : RowAt w a1 n ms)
    (HA : Hid (ascB xs n = true)) (HZ : Hid (nzB ms n = true)) :
    Calls Try.prog 4 #[.slice a0 n c0, .slice a1 n c1, .bool false, .int .i64 x, .int .i64 y] w fun e w' => e = .returned (.bool true) ∧ Below w.heap.size w w' := by
  have hB := bytes16 a0 a1 n c0 n c1 false x y w (by unfold maxLen; omega) (by unfold maxLen; omega)
  have hA := asc_any a0 n c0 xs w hn r0
  have hZ := fun q => nz_any a1 n c1 ms (w.drewN q) hn r1
  rw [HA.out] at hA
  rw [HZ.out] at hZ
  obtain ⟨pa, hpa⟩ : ∃ pa, pa = ofM xs ms x n := ⟨_, rfl⟩
  obtain ⟨pb, hpb⟩ : ∃ pb, pb = ofM xs ms y n := ⟨_, rfl⟩
  have HPA : Hid (ofM xs ms x n = pa) := hpa.symm
  have HPB : Hid (ofM xs ms y n = pb) := hpb.symm
  clear hpa hpb
  have hnl := fun w a c => run_neq_slice_nil_any (P := Try.prog) w 22 2 a n c 0 0 Try.underlying22
  obtain ⟨i0, hi, hz0, hz1, hz2⟩ := info_parts Try.info2
  go_enter Try.func4, Try.ntmps4
  go_upto_if 48 with (first | (go_at_call 16; refine hB.mono ?_; rintro e w' ⟨r, rfl, hr, rfl⟩; obtain rfl := hr hn hn) | (go_at_call 9; refine hA.mono ?_; rintro e w' ⟨rfl, q, rfl⟩) | (go_at_call 10; refine (hZ _).mono ?_; rintro e w' ⟨rfl, rfl⟩))
  clear hB hA hZ
  go_cut [0] (fun s wc => Kept2 w wc s n xs)
  case first =>
    cases a0 with
    | none =>
      go_wp2
      go_meet
      case rel => exact ⟨none, c0, rfl, r0, below_drewN (Below.refl _ _) _⟩
    | some ad =>
      go_wp2_with (first
        | (at_make; refine wpList_make_full _ rfl _ _ 22 rfl w.heap.size 2 i0 _ 1 Try.underlying22 hi hz0 hz1 .i64 .i64 _ _ n rfl rfl rfl rfl (by rw [hz2]; omega) (by unfold maxLen; omega) (by simp) ?_; intro w1 hown1 hg1)
        | (refine wpList_copyRow rfl (.tmp 52) (.tmp 53) rfl w.heap.size n c0 (some ad) rfl rfl xs (w.drewN q) (r0.drewN q) w.heap.size _ (by exact hown1) (by exact (Below.refl _ _).grown hg1 (Nat.le_refl _) (fun k h => by cases h)) (Nat.le_refl _) ?_; intro w2 hr2 hb2))
      go_meet
      case rel => exact ⟨_, n, rfl, hr2, (below_drewN (Below.refl _ _) q).trans hb2⟩
  case rest =>
    rename World => wA
    obtain ⟨a0', c0', rfl, r0', hb0⟩ := hcut
    clear r0
    go_upto_if 57 with fail
    have r1c := r1.below hb0
    go_cut [1] (fun s wc2 => Kept2 wA wc2 s n ms)
    case first =>
      cases a1 with
      | none =>
        go_wp2
        go_meet
        case rel => exact ⟨none, c1, rfl, r1c, Below.refl _ _⟩
      | some ad =>
        go_wp2_with (first
          | (at_make; refine wpList_make_full _ rfl _ _ 22 rfl wA.heap.size 2 i0 _ 1 Try.underlying22 hi hz0 hz1 .i64 .i64 _ _ n rfl rfl rfl rfl (by rw [hz2]; omega) (by unfold maxLen; omega) (Nat.le_refl _) ?_; intro w1 hown1 hg1)
          | (refine wpList_copyRow rfl (.tmp 61) (.tmp 62) rfl wA.heap.size n c1 (some ad) rfl rfl ms wA r1c wA.heap.size _ (by exact hown1) (by exact (Below.refl _ _).grown hg1 (Nat.le_refl _) (fun k h => by cases h)) (Nat.le_refl _) ?_; intro w2 hr2 hb2))
        go_meet
        case rel => exact ⟨_, n, rfl, hr2, hb2⟩
    case rest =>
      rename World => wB
      obtain ⟨a1', c1', rfl, r1', hb1⟩ := hcut
      have r0b := r0'.below hb1
      have hbB : Below w.heap.size w wB := hb0.trans (hb1.mono hb0.size)
      clear r1 r1c r0' hb0 hb1 hnl
      have hP := newParts_any a0' a1' n c0' c1' xs ms wB hn r0b r1' r0b.lt r1'.lt
      go_wp2_with fail
      refine hP.mono ?_
      rintro e wC ⟨rfl, hPC, hbC⟩
      have hFt := foot_any wB.heap.size n xs ms wC hPC
      have r0c := r0b.below hbC
      have r1c := r1'.below hbC
      have hbC' : Below w.heap.size w wC := hbB.trans (hbC.mono hbB.size)
      clear hP r0b r1' hbB hbC hPC
      go_wp2_with fail
      refine hFt.mono ?_
      rintro e wD ⟨rfl, hF, hbD⟩
      have r0d := r0c.below hbD
      have r1d := r1c.below hbD
      have hbD' : Below w.heap.size w wD := hbC'.trans (hbD.mono hbC'.size)
      clear hFt r0c r1c hbC' hbD
      have hX := asked_any a0' a1' n c0' c1' xs ms x wD hn r0d r1d HA
      have hY := asked_any a0' a1' n c0' c1' xs ms y wD hn r0d r1d HA
      have hC := before_any wC.heap.size wB.heap.size n xs ms x y wD hn hF HA
      unfold askB at hX hY
      rw [HPA.out] at hX hC
      rw [HPB.out] at hY hC
      clear r0d r1d hF HPA HPB
      cases h1 : decide (0 < pa)
      all_goals cases h2 : decide (0 < pb)
      all_goals
        rw [h1] at hX
        rw [h2] at hY
        have hcb : cbB pa pb x y = _ := cbB_eq h1 h2
        rw [hcb] at hC
        clear h1 h2 hcb
        go_wp2_with fail
        refine hX.mono ?_
        rintro e w' ⟨rfl, rfl⟩
        go_wp2_with fail
        refine hY.mono ?_
        rintro e w' ⟨rfl, rfl⟩
        go_wp2_with fail
        refine hC.mono ?_
        rintro e w' ⟨rfl, hbE⟩
        go_wp2_with fail
        go_ret
        exact ⟨by first | rfl | simp, hbD'.trans (hbE.mono hbD'.size)⟩

end Go.Proofs.Qxb6604485a
