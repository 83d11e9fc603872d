/-
  The walk of FnPartEmptyMarksAbsence (3).
-/
import Derived.Test.Qxb6604485aBits
import Derived.Deep.DeepMust
namespace Go.Proofs.Qxb6604485a
open Go.RowKit

set_option maxHeartbeats 1000000 in
/-- Whatever stands outside the law's own guards: true. -/
theorem one_out (a0 a1 : Option Addr) (n0 c0 n1 c1 : Nat) (key : Int) (w : World) (h0 : n0 ≤ maxLen) (h1 : n1 ≤ maxLen) (h : ¬ (n0 ≤ 65536 ∧ n1 ≤ 65536)) :
    Calls Try.prog 3 #[.slice a0 n0 c0, .slice a1 n1 c1, .int .i64 key] w fun e w' => e = .returned (.bool true) ∧ Below w.heap.size w w' := by
  have hB := bytes8 a0 a1 n0 c0 n1 c1 key w h0 h1
  unfold maxLen at h0 h1
  go_enter Try.func3, Try.ntmps3
  go_wp2_with fail
  refine hB.mono ?_
  rintro e w' ⟨r, rfl, _, rfl⟩
  cases r
  · go_wp2
    go_ret
    exact ⟨rfl, Below.refl _ _⟩
  · by_cases hn0 : n0 ≤ 65536
    · have hn1 : ¬ n1 ≤ 65536 := fun x => h ⟨hn0, x⟩
      go_wp2
      go_ret
      exact ⟨rfl, Below.refl _ _⟩
    · go_wp2
      go_ret
      exact ⟨rfl, Below.refl _ _⟩

set_option maxHeartbeats 1000000 in
theorem one_unfit (a0 a1 : Option Addr) (n0 c0 n1 c1 : Nat) (xs ms : List Int) (key : Int) (w : World) (h0 : n0 ≤ 65536) (h1 : n1 ≤ 65536) (r0 : RowAt w a0 n0 xs) (r1 : RowAt w a1 n1 ms)
    (h : ¬ (n0 = n1 ∧ ascB xs n0 = true ∧ nzB ms n1 = true)) :
    Calls Try.prog 3 #[.slice a0 n0 c0, .slice a1 n1 c1, .int .i64 key] w fun e w' => e = .returned (.bool true) ∧ Below w.heap.size w w' := by
  have hB := bytes8 a0 a1 n0 c0 n1 c1 key w (by unfold maxLen; omega) (by unfold maxLen; omega)
  have hA := asc_any a0 n0 c0 xs w h0 r0
  have hZ := fun q => nz_any a1 n1 c1 ms (w.drewN q) h1 r1
  clear r0 r1
  by_cases e : n0 = n1
  · subst e
    cases ha : ascB xs n0
    · rw [ha] at hA
      clear h ha
      go_enter Try.func3, Try.ntmps3
      go_wp2_with (first | (go_at_call 8; refine hB.mono ?_; rintro e w' ⟨r, rfl, hr, rfl⟩; obtain rfl := hr h0 h1) | (go_at_call 9; refine hA.mono ?_; rintro e w' ⟨rfl, q, rfl⟩))
      go_ret
      exact ⟨rfl, below_drewN (Below.refl _ _) _⟩
    · rw [ha] at hA
      have hz : nzB ms n0 = false := by
        cases hz : nzB ms n0
        · rfl
        · exact absurd ⟨rfl, ha, hz⟩ h
      rw [hz] at hZ
      clear h ha hz
      go_enter Try.func3, Try.ntmps3
      go_wp2_with (first | (go_at_call 8; refine hB.mono ?_; rintro e w' ⟨r, rfl, hr, rfl⟩; obtain rfl := hr h0 h1) | (go_at_call 9; refine hA.mono ?_; rintro e w' ⟨rfl, q, rfl⟩) | (go_at_call 10; refine (hZ _).mono ?_; rintro e w' ⟨rfl, rfl⟩))
      go_ret
      exact ⟨rfl, below_drewN (Below.refl _ _) _⟩
  · have e' : ¬ (n0 : Int) = (n1 : Int) := by omega
    clear hA hZ h
    go_enter Try.func3, Try.ntmps3
    go_wp2_with (first | (go_at_call 8; refine hB.mono ?_; rintro e w' ⟨r, rfl, hr, rfl⟩; obtain rfl := hr h0 h1))
    go_ret
    exact ⟨rfl, Below.refl _ _⟩

/-- What is known of a row behind the law's own copy. -/
def Kept (w wc : World) (s : Value) (n : Nat) (zs : List Int) : Prop :=
  ∃ a c, s = .slice a n c ∧ RowAt wc a n zs ∧ Below w.heap.size w wc

/-- A struct's new slot. -/
theorem new_slot (w : World) (x y : Int) : (w.alloc (.cells #[.int .i64 x, .int .i64 y] 26)).cell? ⟨w.heap.size, 0, none⟩ = some (.int .i64 x) ∧ (w.alloc (.cells #[.int .i64 x, .int .i64 y] 26)).cell? ⟨w.heap.size, 1, none⟩ = some (.int .i64 y) ∧
    Below w.heap.size w (w.alloc (.cells #[.int .i64 x, .int .i64 y] 26)) :=
  ⟨by simp, by simp, (Below.refl _ _).alloc (Nat.le_refl _) _⟩

set_option maxRecDepth 20000 in
set_option maxHeartbeats 2000000 in
theorem one_absent (a0 a1 : Option Addr) (n c0 c1 : Nat) (xs ms : List Int) (key : Int) (w : World) (hn : n ≤ 65536) (r0 : RowAt w a0 n xs) (r1 : RowAt w a1 n ms)
    (HA : Hid (ascB xs n = true)) (HZ : Hid (nzB ms n = true)) (hk : ∀ j, j < n → xs.getD j 0 ≠ key) :
    Calls Try.prog 3 #[.slice a0 n c0, .slice a1 n c1, .int .i64 key] w fun e w' => e = .returned (.bool true) ∧ Below w.heap.size w w' := by
  have hB := bytes8 a0 a1 n c0 n c1 key w (by unfold maxLen; omega) (by unfold maxLen; omega)
  have hA := asc_any a0 n c0 xs w hn r0
  have hZ := fun q => nz_any a1 n c1 ms (w.drewN q) hn r1
  rw [HA.out] at hA
  rw [HZ.out] at hZ
  have HK : Hid (∀ j, j < n → xs.getD j 0 ≠ key) := hk
  clear hk
  have hnl := fun w a c => run_neq_slice_nil_any (P := Try.prog) w 22 2 a n c 0 0 Try.underlying22
  obtain ⟨i0, hi, hz0, hz1, hz2⟩ := info_parts Try.info2
  go_enter Try.func3, Try.ntmps3
  go_upto_if 41 with (first | (go_at_call 8; refine hB.mono ?_; rintro e w' ⟨r, rfl, hr, rfl⟩; obtain rfl := hr hn hn) | (go_at_call 9; refine hA.mono ?_; rintro e w' ⟨rfl, q, rfl⟩) | (go_at_call 10; refine (hZ _).mono ?_; rintro e w' ⟨rfl, rfl⟩))
  clear hB hA hZ
  go_cut [0] (fun s wc => Kept w wc s n xs)
  case first =>
    cases a0 with
    | none =>
      go_wp2
      go_meet
      case rel => exact ⟨none, c0, rfl, r0, below_drewN (Below.refl _ _) _⟩
    | some x =>
      go_wp2_with (first
        | (at_make; refine wpList_make_full _ rfl _ _ 22 rfl w.heap.size 2 i0 _ 1 Try.underlying22 hi hz0 hz1 .i64 .i64 _ _ n rfl rfl rfl rfl (by rw [hz2]; omega) (by unfold maxLen; omega) (by simp) ?_; intro w1 hown1 hg1)
        | (refine wpList_copyRow rfl (.tmp 45) (.tmp 46) rfl w.heap.size n c0 (some x) rfl rfl xs (w.drewN q) (r0.drewN q) w.heap.size _ (by exact hown1) (by exact (Below.refl _ _).grown hg1 (Nat.le_refl _) (fun k h => by cases h)) (Nat.le_refl _) ?_; intro w2 hr2 hb2))
      go_meet
      case rel => exact ⟨_, n, rfl, hr2, (below_drewN (Below.refl _ _) q).trans hb2⟩
  case rest =>
    rename World => wA
    obtain ⟨a0', c0', rfl, r0', hb0⟩ := hcut
    clear r0
    go_upto_if 50 with fail
    have r1c := r1.below hb0
    go_cut [1] (fun s wc2 => Kept wA wc2 s n ms)
    case first =>
      cases a1 with
      | none =>
        go_wp2
        go_meet
        case rel => exact ⟨none, c1, rfl, r1c, Below.refl _ _⟩
      | some x =>
        go_wp2_with (first
          | (at_make; refine wpList_make_full _ rfl _ _ 22 rfl wA.heap.size 2 i0 _ 1 Try.underlying22 hi hz0 hz1 .i64 .i64 _ _ n rfl rfl rfl rfl (by rw [hz2]; omega) (by unfold maxLen; omega) (Nat.le_refl _) ?_; intro w1 hown1 hg1)
          | (refine wpList_copyRow rfl (.tmp 54) (.tmp 55) rfl wA.heap.size n c1 (some x) rfl rfl ms wA r1c wA.heap.size _ (by exact hown1) (by exact (Below.refl _ _).grown hg1 (Nat.le_refl _) (fun k h => by cases h)) (Nat.le_refl _) ?_; intro w2 hr2 hb2))
        go_meet
        case rel => exact ⟨_, n, rfl, hr2, hb2⟩
    case rest =>
      rename World => wB
      obtain ⟨a1', c1', rfl, r1', hb1⟩ := hcut
      have r0b := r0'.below hb1
      have hbB : Below w.heap.size w wB := hb0.trans (hb1.mono hb0.size)
      clear r1 r1c r0' hb0 hb1 hnl
      have hP := newParts_any a0' a1' n c0' c1' xs ms wB hn r0b r1' r0b.lt r1'.lt
      go_wp2_with fail
      refine hP.mono ?_
      rintro e wC ⟨rfl, hPC, hbC⟩
      have hO := partsOf_any wB.heap.size n key 0 0 wC (fun W hW => of_absent wB.heap.size n n xs ms key W hn (hPC.below hW hPC.1) HA HK.out)
      have r0c := r0b.below hbC
      have hbC' : Below w.heap.size w wC := hbB.trans (hbC.mono hbB.size)
      clear hP r0b r1' hbB hbC hPC
      go_wp2_with (go_at_call 11; refine hO.mono ?_; rintro e wD ⟨rfl, hbD⟩)
      have r0d := r0c.below hbD
      have hbD' : Below w.heap.size w wD := hbC'.trans (hbD.mono hbC'.size)
      clear hO r0c hbC' hbD
      have hsl := new_slot wD 0 0
      have r0e := r0d.below (hsl.2.2)
      have hbE : Below w.heap.size w _ := hbD'.trans (hsl.2.2.mono hbD'.size)
      have hlt : wD.heap.size < (wD.alloc (.cells #[.int .i64 0, .int .i64 0] 26)).heap.size := by simp
      obtain ⟨wE, hE⟩ : ∃ wE, wE = wD.alloc (.cells #[.int .i64 0, .int .i64 0] 26) := ⟨_, rfl⟩
      obtain ⟨B, hBe⟩ : ∃ B, B = wD.heap.size := ⟨_, rfl⟩
      rw [← hE] at hsl r0e hbE hlt ⊢
      rw [← hBe] at hsl hlt ⊢
      obtain ⟨s0, s1, -⟩ := hsl
      clear hE hBe r0d hbD'
      go_loop [10, 11] (fun f i => ∃ k : Nat, k ≤ n ∧ f = .int .i64 (-1) ∧ i = .int .i64 k) (fun _ i => n + 1 - (intOf i).toNat)
      case atStart => exact ⟨0, Nat.zero_le _, rfl, rfl⟩
      case round =>
        obtain ⟨k, hk, rfl, rfl⟩ := hrel
        by_cases hkn : k < n
        · obtain ⟨b, off, rfl, hc⟩ := r0e.2 (by omega)
          have g0 := hc k hkn
          have hne : (xs.getD k 0 == key) = false := by have := HK.out k hkn; simpa using this
          generalize xs.getD k 0 = z at g0 hne
          clear hc
          go_wp2
          go_round
          case rel => exact ⟨k + 1, by omega, rfl, by go_num⟩
          case measure => simp [intOf]; omega
        · go_wp2_with fail
          refine (empty_any _ _ _).mono ?_
          rintro e w1 ⟨rfl, hb1⟩
          have s01 := (hb1.cell (p := ⟨B, 0, none⟩) hlt).trans s0
          have s11 := (hb1.cell (p := ⟨B, 1, none⟩) hlt).trans s1
          have hlt1 : B < w1.heap.size := Nat.lt_of_lt_of_le hlt hb1.size
          go_wp2_with fail
          refine (index_any _ _ _).mono ?_
          rintro e w2 ⟨rfl, hb2⟩
          have s02 := (hb2.cell (p := ⟨B, 0, none⟩) hlt1).trans s01
          have s12 := (hb2.cell (p := ⟨B, 1, none⟩) hlt1).trans s11
          go_wp2_with fail
          refine (milli_any _ _ _).mono ?_
          rintro e w3 ⟨rfl, hb3⟩
          have hb4 := hb1.trans (hb2.mono hb1.size)
          have hb5 := hb4.trans (hb3.mono hb4.size)
          go_wp2_with fail
          go_ret
          exact ⟨rfl, hbE.trans (hb5.mono hbE.size)⟩

end Go.Proofs.Qxb6604485a
