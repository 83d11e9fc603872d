/-
  The walk of FnComesBeforeIsStrictTotalOrder (5).
-/
import Derived.Test.Qxb6604485aBits
namespace Go.Proofs.Qxb6604485a
open Go.RowKit

set_option maxHeartbeats 1000000 in
/-- Whatever stands outside the law's own guards: true. -/
theorem three_out (a0 a1 : Option Addr) (n0 c0 n1 c1 : Nat) (x y z : Int) (w : World) (h0 : n0 ≤ maxLen) (h1 : n1 ≤ maxLen) (h : ¬ (n0 ≤ 65536 ∧ n1 ≤ 65536)) :
    Calls Try.prog 5 #[.slice a0 n0 c0, .slice a1 n1 c1, .int .i64 x, .int .i64 y, .int .i64 z] w fun e w' => e = .returned (.bool true) ∧ Below w.heap.size w w' := by
  have hB := bytes20 a0 a1 n0 c0 n1 c1 x y z w h0 h1
  unfold maxLen at h0 h1
  go_enter Try.func5, Try.ntmps5
  go_wp2_with fail
  refine hB.mono ?_
  rintro e w' ⟨r, rfl, _, rfl⟩
  cases r
  · go_wp2
    go_ret
    exact ⟨rfl, Below.refl _ _⟩
  · by_cases hn0 : n0 ≤ 65536
    · have hn1 : ¬ n1 ≤ 65536 := fun x => h ⟨hn0, x⟩
      go_wp2
      go_ret
      exact ⟨rfl, Below.refl _ _⟩
    · go_wp2
      go_ret
      exact ⟨rfl, Below.refl _ _⟩

set_option maxHeartbeats 1000000 in
theorem three_unfit (a0 a1 : Option Addr) (n0 c0 n1 c1 : Nat) (xs ms : List Int) (x y z : Int) (w : World) (h0 : n0 ≤ 65536) (h1 : n1 ≤ 65536) (r0 : RowAt w a0 n0 xs) (r1 : RowAt w a1 n1 ms)
    (h : ¬ (n0 = n1 ∧ ascB xs n0 = true ∧ nzB ms n1 = true)) :
    Calls Try.prog 5 #[.slice a0 n0 c0, .slice a1 n1 c1, .int .i64 x, .int .i64 y, .int .i64 z] w fun e w' => e = .returned (.bool true) ∧ Below w.heap.size w w' := by
  have hB := bytes20 a0 a1 n0 c0 n1 c1 x y z w (by unfold maxLen; omega) (by unfold maxLen; omega)
  have hA := asc_any a0 n0 c0 xs w h0 r0
  have hZ := fun q => nz_any a1 n1 c1 ms (w.drewN q) h1 r1
  clear r0 r1
  by_cases e : n0 = n1
  · subst e
    cases ha : ascB xs n0
    · rw [ha] at hA
      clear h ha
      go_enter Try.func5, Try.ntmps5
      go_wp2_with (first | (go_at_call 20; refine hB.mono ?_; rintro e w' ⟨r, rfl, hr, rfl⟩; obtain rfl := hr h0 h1) | (go_at_call 9; refine hA.mono ?_; rintro e w' ⟨rfl, q, rfl⟩))
      go_ret
      exact ⟨rfl, below_drewN (Below.refl _ _) _⟩
    · rw [ha] at hA
      have hz : nzB ms n0 = false := by
        cases hz : nzB ms n0
        · rfl
        · exact absurd ⟨rfl, ha, hz⟩ h
      rw [hz] at hZ
      clear h ha hz
      go_enter Try.func5, Try.ntmps5
      go_wp2_with (first | (go_at_call 20; refine hB.mono ?_; rintro e w' ⟨r, rfl, hr, rfl⟩; obtain rfl := hr h0 h1) | (go_at_call 9; refine hA.mono ?_; rintro e w' ⟨rfl, q, rfl⟩) | (go_at_call 10; refine (hZ _).mono ?_; rintro e w' ⟨rfl, rfl⟩))
      go_ret
      exact ⟨rfl, below_drewN (Below.refl _ _) _⟩
  · have e' : ¬ (n0 : Int) = (n1 : Int) := by omega
    clear hA hZ h
    go_enter Try.func5, Try.ntmps5
    go_wp2_with (first | (go_at_call 20; refine hB.mono ?_; rintro e w' ⟨r, rfl, hr, rfl⟩; obtain rfl := hr h0 h1))
    go_ret
    exact ⟨rfl, Below.refl _ _⟩

/-- What is known of a row behind the law's own copy. -/
def Kept3 (w wc : World) (s : Value) (n : Nat) (zs : List Int) : Prop :=
  ∃ a c, s = .slice a n c ∧ RowAt wc a n zs ∧ Below w.heap.size w wc

theorem cb_irrefl (p x : Int) : cbB p p x x = false := by simp [cbB]
theorem cb_flip {p q x y : Int} (h : x ≠ y) : cbB q p y x = !cbB p q x y := by
  have e : decide (y < x) = !decide (x < y) := by
    rw [Bool.eq_iff_iff]; simp; omega
  unfold cbB
  rw [e]
  cases decide (0 < p) <;> cases decide (0 < q) <;> simp
theorem cb_trans {p q r x y z : Int} (h1 : cbB p q x y = true) (h2 : cbB q r y z = true) : cbB p r x z = true := by
  revert h1 h2
  unfold cbB
  cases decide (0 < p) <;> cases decide (0 < q) <;> cases decide (0 < r) <;> simp
  all_goals omega
theorem three_cases {x y : Int} {ab ba bc ac ka kb : Bool} (fe : x = y → ab = false) (fs : x ≠ y → ba = !ab) (ft : ab = true → bc = true → ac = true) (fk : ka = true → kb = false → ab = true) :
    ((x == y) = true ∧ ab = false ∧ (ka = false ∨ ka = true ∧ kb = true)) ∨ ((x == y) = false ∧ ab = false ∧ ba = true ∧ (ka = false ∨ ka = true ∧ kb = true)) ∨
    ((x == y) = false ∧ ab = true ∧ ba = false ∧ (bc = false ∨ bc = true ∧ ac = true)) := by
  by_cases h : x = y
  · left
    have := fe h
    subst this
    refine ⟨by simpa using h, rfl, ?_⟩
    cases ka
    · exact Or.inl rfl
    · cases kb
      · exact absurd (fk rfl rfl) (by simp)
      · exact Or.inr ⟨rfl, rfl⟩
  · right
    have := fs h
    subst this
    cases ab
    · left
      refine ⟨by simpa using h, rfl, rfl, ?_⟩
      cases ka
      · exact Or.inl rfl
      · cases kb
        · exact absurd (fk rfl rfl) (by simp)
        · exact Or.inr ⟨rfl, rfl⟩
    · right
      refine ⟨by simpa using h, rfl, rfl, ?_⟩
      cases bc
      · exact Or.inl rfl
      · exact Or.inr ⟨rfl, ft rfl rfl⟩
theorem cb_asked {p q x y : Int} (h1 : decide (0 < p) = true) (h2 : decide (0 < q) = false) : cbB p q x y = true := by
  unfold cbB; rw [h1, h2]; rfl

set_option maxRecDepth 20000 in
set_option maxHeartbeats 2000000 in
theorem three_main (a0 a1 : Option Addr) (n c0 c1 : Nat) (xs ms : List Int) (x y z : Int) (w : World) (hn : n ≤ 65536) (r0 : RowAt w a0 n xs) (r1 : RowAt w a1 n ms)
    (HA : Hid (ascB xs n = true)) (HZ : Hid (nzB ms n = true)) :
    Calls Try.prog 5 #[.slice a0 n c0, .slice a1 n c1, .int .i64 x, .int .i64 y, .int .i64 z] w fun e w' => e = .returned (.bool true) ∧ Below w.heap.size w w' := by
  have hB := bytes20 a0 a1 n c0 n c1 x y z w (by unfold maxLen; omega) (by unfold maxLen; omega)
  have hA := asc_any a0 n c0 xs w hn r0
  have hZ := fun q => nz_any a1 n c1 ms (w.drewN q) hn r1
  rw [HA.out] at hA
  rw [HZ.out] at hZ
  have hnl := fun w a c => run_neq_slice_nil_any (P := Try.prog) w 22 2 a n c 0 0 Try.underlying22
  obtain ⟨i0, hi, hz0, hz1, hz2⟩ := info_parts Try.info2
  go_enter Try.func5, Try.ntmps5
  go_upto_if 49 with (first | (go_at_call 20; refine hB.mono ?_; rintro e w' ⟨r, rfl, hr, rfl⟩; obtain rfl := hr hn hn) | (go_at_call 9; refine hA.mono ?_; rintro e w' ⟨rfl, q, rfl⟩) | (go_at_call 10; refine (hZ _).mono ?_; rintro e w' ⟨rfl, rfl⟩))
  clear hB hA hZ
  go_cut [0] (fun s wc => Kept3 w wc s n xs)
  case first =>
    cases a0 with
    | none =>
      go_wp2
      go_meet
      case rel => exact ⟨none, c0, rfl, r0, below_drewN (Below.refl _ _) _⟩
    | some ad =>
      go_wp2_with (first
        | (at_make; refine wpList_make_full _ rfl _ _ 22 rfl w.heap.size 2 i0 _ 1 Try.underlying22 hi hz0 hz1 .i64 .i64 _ _ n rfl rfl rfl rfl (by rw [hz2]; omega) (by unfold maxLen; omega) (by simp) ?_; intro w1 hown1 hg1)
        | (refine wpList_copyRow rfl (.tmp 53) (.tmp 54) rfl w.heap.size n c0 (some ad) rfl rfl xs (w.drewN q) (r0.drewN q) w.heap.size _ (by exact hown1) (by exact (Below.refl _ _).grown hg1 (Nat.le_refl _) (fun k h => by cases h)) (Nat.le_refl _) ?_; intro w2 hr2 hb2))
      go_meet
      case rel => exact ⟨_, n, rfl, hr2, (below_drewN (Below.refl _ _) q).trans hb2⟩
  case rest =>
    rename World => wA
    obtain ⟨a0', c0', rfl, r0', hb0⟩ := hcut
    clear r0
    go_upto_if 58 with fail
    have r1c := r1.below hb0
    go_cut [1] (fun s wc2 => Kept3 wA wc2 s n ms)
    case first =>
      cases a1 with
      | none =>
        go_wp2
        go_meet
        case rel => exact ⟨none, c1, rfl, r1c, Below.refl _ _⟩
      | some ad =>
        go_wp2_with (first
          | (at_make; refine wpList_make_full _ rfl _ _ 22 rfl wA.heap.size 2 i0 _ 1 Try.underlying22 hi hz0 hz1 .i64 .i64 _ _ n rfl rfl rfl rfl (by rw [hz2]; omega) (by unfold maxLen; omega) (Nat.le_refl _) ?_; intro w1 hown1 hg1)
          | (refine wpList_copyRow rfl (.tmp 62) (.tmp 63) rfl wA.heap.size n c1 (some ad) rfl rfl ms wA r1c wA.heap.size _ (by exact hown1) (by exact (Below.refl _ _).grown hg1 (Nat.le_refl _) (fun k h => by cases h)) (Nat.le_refl _) ?_; intro w2 hr2 hb2))
        go_meet
        case rel => exact ⟨_, n, rfl, hr2, hb2⟩
    case rest =>
      rename World => wB
      obtain ⟨a1', c1', rfl, r1', hb1⟩ := hcut
      have r0b := r0'.below hb1
      have hbB : Below w.heap.size w wB := hb0.trans (hb1.mono hb0.size)
      clear r1 r1c r0' hb0 hb1 hnl
      have hP := newParts_any a0' a1' n c0' c1' xs ms wB hn r0b r1' r0b.lt r1'.lt
      go_wp2_with fail
      refine hP.mono ?_
      rintro e wC ⟨rfl, hPC, hbC⟩
      have hFt := foot_any wB.heap.size n xs ms wC hPC
      have r0c := r0b.below hbC
      have r1c := r1'.below hbC
      have hbC' : Below w.heap.size w wC := hbB.trans (hbC.mono hbB.size)
      clear hP r0b r1' hbB hbC hPC
      go_wp2_with fail
      refine hFt.mono ?_
      rintro e wD ⟨rfl, hF, hbD⟩
      have r0d := r0c.below hbD
      have r1d := r1c.below hbD
      have hbD' : Below w.heap.size w wD := hbC'.trans (hbD.mono hbC'.size)
      clear hFt r0c r1c hbC' hbD
      obtain ⟨pa, hpa⟩ : ∃ pa, ofM xs ms x n = pa := ⟨_, rfl⟩
      obtain ⟨pb, hpb⟩ : ∃ pb, ofM xs ms y n = pb := ⟨_, rfl⟩
      obtain ⟨pc, hpc⟩ : ∃ pc, ofM xs ms z n = pc := ⟨_, rfl⟩
      have h11 := fun W (hW : FootAt W wC.heap.size wB.heap.size n xs ms) => before_any wC.heap.size wB.heap.size n xs ms x x W hn hW HA
      have h12 := fun W (hW : FootAt W wC.heap.size wB.heap.size n xs ms) => before_any wC.heap.size wB.heap.size n xs ms x y W hn hW HA
      have h21 := fun W (hW : FootAt W wC.heap.size wB.heap.size n xs ms) => before_any wC.heap.size wB.heap.size n xs ms y x W hn hW HA
      have h23 := fun W (hW : FootAt W wC.heap.size wB.heap.size n xs ms) => before_any wC.heap.size wB.heap.size n xs ms y z W hn hW HA
      have h13 := fun W (hW : FootAt W wC.heap.size wB.heap.size n xs ms) => before_any wC.heap.size wB.heap.size n xs ms x z W hn hW HA
      have hX := fun W (q0 : RowAt W a0' n xs) (q1 : RowAt W a1' n ms) => asked_any a0' a1' n c0' c1' xs ms x W hn q0 q1 HA
      have hY := fun W (q0 : RowAt W a0' n xs) (q1 : RowAt W a1' n ms) => asked_any a0' a1' n c0' c1' xs ms y W hn q0 q1 HA
      unfold askB at hX hY
      simp only [hpa, hpb, hpc] at h11 h12 h21 h23 h13 hX hY
      have fe : x = y → cbB pa pb x y = false := fun h => by
        have : pa = pb := by rw [← hpa, ← hpb, h]
        rw [h, this]; exact cb_irrefl _ _
      clear hpa hpb hpc
      simp only [cb_irrefl] at h11
      have fs := @cb_flip pa pb x y
      have ft := @cb_trans pa pb pc x y z
      have fk := @cb_asked pa pb x y
      obtain ⟨ka, hka⟩ : ∃ ka, decide (0 < pa) = ka := ⟨_, rfl⟩
      obtain ⟨kb, hkb⟩ : ∃ kb, decide (0 < pb) = kb := ⟨_, rfl⟩
      obtain ⟨ab, hab⟩ : ∃ ab, cbB pa pb x y = ab := ⟨_, rfl⟩
      obtain ⟨ba, hba⟩ : ∃ ba, cbB pb pa y x = ba := ⟨_, rfl⟩
      obtain ⟨bc, hbc⟩ : ∃ bc, cbB pb pc y z = bc := ⟨_, rfl⟩
      obtain ⟨ac, hac⟩ : ∃ ac, cbB pa pc x z = ac := ⟨_, rfl⟩
      rw [hka] at hX
      rw [hkb] at hY
      rw [hab] at h12 fe fk
      rw [hba] at h21
      rw [hbc] at h23
      rw [hac] at h13
      rw [hba, hab] at fs
      rw [hab, hbc, hac] at ft
      rw [hka, hkb] at fk
      clear hka hkb hab hba hbc hac
      have T := three_cases fe fs ft fk
      clear fe fs ft fk
      rcases T with ⟨hxy, rfl, hk⟩ | ⟨hxy, rfl, rfl, hk⟩ | ⟨hxy, rfl, rfl, hk⟩
      · rcases hk with rfl | ⟨rfl, rfl⟩
        · skip
          go_wp2_with fail
          refine (h11 _ hF).mono ?_
          rintro e w1 ⟨rfl, q1⟩
          have F1 := FootAt.below hF q1
          have Q1 := Below.trans hbD' (q1.mono (Below.size hbD'))
          have A1 := RowAt.below r0d q1
          have B1 := RowAt.below r1d q1
          clear q1 
          go_wp2_with fail
          refine (h12 _ F1).mono ?_
          rintro e w2 ⟨rfl, q2⟩
          have F2 := FootAt.below F1 q2
          have Q2 := Below.trans Q1 (q2.mono (Below.size Q1))
          have A2 := RowAt.below A1 q2
          have B2 := RowAt.below B1 q2
          clear q2 F1 Q1 A1 B1
          go_wp2_with fail
          refine (h21 _ F2).mono ?_
          rintro e w3 ⟨rfl, q3⟩
          have F3 := FootAt.below F2 q3
          have Q3 := Below.trans Q2 (q3.mono (Below.size Q2))
          have A3 := RowAt.below A2 q3
          have B3 := RowAt.below B2 q3
          clear q3 F2 Q2 A2 B2
          go_wp2_with fail
          refine (h23 _ F3).mono ?_
          rintro e w4 ⟨rfl, q4⟩
          have F4 := FootAt.below F3 q4
          have Q4 := Below.trans Q3 (q4.mono (Below.size Q3))
          have A4 := RowAt.below A3 q4
          have B4 := RowAt.below B3 q4
          clear q4 F3 Q3 A3 B3
          go_wp2_with fail
          refine (h13 _ F4).mono ?_
          rintro e w5 ⟨rfl, q5⟩
          have F5 := FootAt.below F4 q5
          have Q5 := Below.trans Q4 (q5.mono (Below.size Q4))
          have A5 := RowAt.below A4 q5
          have B5 := RowAt.below B4 q5
          clear q5 F4 Q4 A4 B4
          go_wp2_with fail
          refine (hX _ A5 B5).mono ?_
          rintro e w' ⟨rfl, rfl⟩
          go_wp2_with fail
          go_ret
          exact ⟨rfl, Q5⟩
        · skip
          go_wp2_with fail
          refine (h11 _ hF).mono ?_
          rintro e w1 ⟨rfl, q1⟩
          have F1 := FootAt.below hF q1
          have Q1 := Below.trans hbD' (q1.mono (Below.size hbD'))
          have A1 := RowAt.below r0d q1
          have B1 := RowAt.below r1d q1
          clear q1 
          go_wp2_with fail
          refine (h12 _ F1).mono ?_
          rintro e w2 ⟨rfl, q2⟩
          have F2 := FootAt.below F1 q2
          have Q2 := Below.trans Q1 (q2.mono (Below.size Q1))
          have A2 := RowAt.below A1 q2
          have B2 := RowAt.below B1 q2
          clear q2 F1 Q1 A1 B1
          go_wp2_with fail
          refine (h21 _ F2).mono ?_
          rintro e w3 ⟨rfl, q3⟩
          have F3 := FootAt.below F2 q3
          have Q3 := Below.trans Q2 (q3.mono (Below.size Q2))
          have A3 := RowAt.below A2 q3
          have B3 := RowAt.below B2 q3
          clear q3 F2 Q2 A2 B2
          go_wp2_with fail
          refine (h23 _ F3).mono ?_
          rintro e w4 ⟨rfl, q4⟩
          have F4 := FootAt.below F3 q4
          have Q4 := Below.trans Q3 (q4.mono (Below.size Q3))
          have A4 := RowAt.below A3 q4
          have B4 := RowAt.below B3 q4
          clear q4 F3 Q3 A3 B3
          go_wp2_with fail
          refine (h13 _ F4).mono ?_
          rintro e w5 ⟨rfl, q5⟩
          have F5 := FootAt.below F4 q5
          have Q5 := Below.trans Q4 (q5.mono (Below.size Q4))
          have A5 := RowAt.below A4 q5
          have B5 := RowAt.below B4 q5
          clear q5 F4 Q4 A4 B4
          go_wp2_with fail
          refine (hX _ A5 B5).mono ?_
          rintro e w' ⟨rfl, rfl⟩
          go_wp2_with fail
          refine (hY _ A5 B5).mono ?_
          rintro e w' ⟨rfl, rfl⟩
          go_wp2_with fail
          go_ret
          exact ⟨rfl, Q5⟩
      · rcases hk with rfl | ⟨rfl, rfl⟩
        · skip
          go_wp2_with fail
          refine (h11 _ hF).mono ?_
          rintro e w1 ⟨rfl, q1⟩
          have F1 := FootAt.below hF q1
          have Q1 := Below.trans hbD' (q1.mono (Below.size hbD'))
          have A1 := RowAt.below r0d q1
          have B1 := RowAt.below r1d q1
          clear q1 
          go_wp2_with fail
          refine (h12 _ F1).mono ?_
          rintro e w2 ⟨rfl, q2⟩
          have F2 := FootAt.below F1 q2
          have Q2 := Below.trans Q1 (q2.mono (Below.size Q1))
          have A2 := RowAt.below A1 q2
          have B2 := RowAt.below B1 q2
          clear q2 F1 Q1 A1 B1
          go_wp2_with fail
          refine (h21 _ F2).mono ?_
          rintro e w3 ⟨rfl, q3⟩
          have F3 := FootAt.below F2 q3
          have Q3 := Below.trans Q2 (q3.mono (Below.size Q2))
          have A3 := RowAt.below A2 q3
          have B3 := RowAt.below B2 q3
          clear q3 F2 Q2 A2 B2
          go_wp2_with fail
          refine (h23 _ F3).mono ?_
          rintro e w4 ⟨rfl, q4⟩
          have F4 := FootAt.below F3 q4
          have Q4 := Below.trans Q3 (q4.mono (Below.size Q3))
          have A4 := RowAt.below A3 q4
          have B4 := RowAt.below B3 q4
          clear q4 F3 Q3 A3 B3
          go_wp2_with fail
          refine (h13 _ F4).mono ?_
          rintro e w5 ⟨rfl, q5⟩
          have F5 := FootAt.below F4 q5
          have Q5 := Below.trans Q4 (q5.mono (Below.size Q4))
          have A5 := RowAt.below A4 q5
          have B5 := RowAt.below B4 q5
          clear q5 F4 Q4 A4 B4
          go_wp2_with fail
          refine (hX _ A5 B5).mono ?_
          rintro e w' ⟨rfl, rfl⟩
          go_wp2_with fail
          go_ret
          exact ⟨rfl, Q5⟩
        · skip
          go_wp2_with fail
          refine (h11 _ hF).mono ?_
          rintro e w1 ⟨rfl, q1⟩
          have F1 := FootAt.below hF q1
          have Q1 := Below.trans hbD' (q1.mono (Below.size hbD'))
          have A1 := RowAt.below r0d q1
          have B1 := RowAt.below r1d q1
          clear q1 
          go_wp2_with fail
          refine (h12 _ F1).mono ?_
          rintro e w2 ⟨rfl, q2⟩
          have F2 := FootAt.below F1 q2
          have Q2 := Below.trans Q1 (q2.mono (Below.size Q1))
          have A2 := RowAt.below A1 q2
          have B2 := RowAt.below B1 q2
          clear q2 F1 Q1 A1 B1
          go_wp2_with fail
          refine (h21 _ F2).mono ?_
          rintro e w3 ⟨rfl, q3⟩
          have F3 := FootAt.below F2 q3
          have Q3 := Below.trans Q2 (q3.mono (Below.size Q2))
          have A3 := RowAt.below A2 q3
          have B3 := RowAt.below B2 q3
          clear q3 F2 Q2 A2 B2
          go_wp2_with fail
          refine (h23 _ F3).mono ?_
          rintro e w4 ⟨rfl, q4⟩
          have F4 := FootAt.below F3 q4
          have Q4 := Below.trans Q3 (q4.mono (Below.size Q3))
          have A4 := RowAt.below A3 q4
          have B4 := RowAt.below B3 q4
          clear q4 F3 Q3 A3 B3
          go_wp2_with fail
          refine (h13 _ F4).mono ?_
          rintro e w5 ⟨rfl, q5⟩
          have F5 := FootAt.below F4 q5
          have Q5 := Below.trans Q4 (q5.mono (Below.size Q4))
          have A5 := RowAt.below A4 q5
          have B5 := RowAt.below B4 q5
          clear q5 F4 Q4 A4 B4
          go_wp2_with fail
          refine (hX _ A5 B5).mono ?_
          rintro e w' ⟨rfl, rfl⟩
          go_wp2_with fail
          refine (hY _ A5 B5).mono ?_
          rintro e w' ⟨rfl, rfl⟩
          go_wp2_with fail
          go_ret
          exact ⟨rfl, Q5⟩
      · rcases hk with rfl | ⟨rfl, rfl⟩
        · cases ka
          · skip
            go_wp2_with fail
            refine (h11 _ hF).mono ?_
            rintro e w1 ⟨rfl, q1⟩
            have F1 := FootAt.below hF q1
            have Q1 := Below.trans hbD' (q1.mono (Below.size hbD'))
            have A1 := RowAt.below r0d q1
            have B1 := RowAt.below r1d q1
            clear q1 
            go_wp2_with fail
            refine (h12 _ F1).mono ?_
            rintro e w2 ⟨rfl, q2⟩
            have F2 := FootAt.below F1 q2
            have Q2 := Below.trans Q1 (q2.mono (Below.size Q1))
            have A2 := RowAt.below A1 q2
            have B2 := RowAt.below B1 q2
            clear q2 F1 Q1 A1 B1
            go_wp2_with fail
            refine (h21 _ F2).mono ?_
            rintro e w3 ⟨rfl, q3⟩
            have F3 := FootAt.below F2 q3
            have Q3 := Below.trans Q2 (q3.mono (Below.size Q2))
            have A3 := RowAt.below A2 q3
            have B3 := RowAt.below B2 q3
            clear q3 F2 Q2 A2 B2
            go_wp2_with fail
            refine (h23 _ F3).mono ?_
            rintro e w4 ⟨rfl, q4⟩
            have F4 := FootAt.below F3 q4
            have Q4 := Below.trans Q3 (q4.mono (Below.size Q3))
            have A4 := RowAt.below A3 q4
            have B4 := RowAt.below B3 q4
            clear q4 F3 Q3 A3 B3
            go_wp2_with fail
            refine (h13 _ F4).mono ?_
            rintro e w5 ⟨rfl, q5⟩
            have F5 := FootAt.below F4 q5
            have Q5 := Below.trans Q4 (q5.mono (Below.size Q4))
            have A5 := RowAt.below A4 q5
            have B5 := RowAt.below B4 q5
            clear q5 F4 Q4 A4 B4
            go_wp2_with fail
            refine (hX _ A5 B5).mono ?_
            rintro e w' ⟨rfl, rfl⟩
            go_wp2_with fail
            go_ret
            exact ⟨rfl, Q5⟩
          · cases kb
            · skip
              go_wp2_with fail
              refine (h11 _ hF).mono ?_
              rintro e w1 ⟨rfl, q1⟩
              have F1 := FootAt.below hF q1
              have Q1 := Below.trans hbD' (q1.mono (Below.size hbD'))
              have A1 := RowAt.below r0d q1
              have B1 := RowAt.below r1d q1
              clear q1 
              go_wp2_with fail
              refine (h12 _ F1).mono ?_
              rintro e w2 ⟨rfl, q2⟩
              have F2 := FootAt.below F1 q2
              have Q2 := Below.trans Q1 (q2.mono (Below.size Q1))
              have A2 := RowAt.below A1 q2
              have B2 := RowAt.below B1 q2
              clear q2 F1 Q1 A1 B1
              go_wp2_with fail
              refine (h21 _ F2).mono ?_
              rintro e w3 ⟨rfl, q3⟩
              have F3 := FootAt.below F2 q3
              have Q3 := Below.trans Q2 (q3.mono (Below.size Q2))
              have A3 := RowAt.below A2 q3
              have B3 := RowAt.below B2 q3
              clear q3 F2 Q2 A2 B2
              go_wp2_with fail
              refine (h23 _ F3).mono ?_
              rintro e w4 ⟨rfl, q4⟩
              have F4 := FootAt.below F3 q4
              have Q4 := Below.trans Q3 (q4.mono (Below.size Q3))
              have A4 := RowAt.below A3 q4
              have B4 := RowAt.below B3 q4
              clear q4 F3 Q3 A3 B3
              go_wp2_with fail
              refine (h13 _ F4).mono ?_
              rintro e w5 ⟨rfl, q5⟩
              have F5 := FootAt.below F4 q5
              have Q5 := Below.trans Q4 (q5.mono (Below.size Q4))
              have A5 := RowAt.below A4 q5
              have B5 := RowAt.below B4 q5
              clear q5 F4 Q4 A4 B4
              go_wp2_with fail
              refine (hX _ A5 B5).mono ?_
              rintro e w' ⟨rfl, rfl⟩
              go_wp2_with fail
              refine (hY _ A5 B5).mono ?_
              rintro e w' ⟨rfl, rfl⟩
              go_wp2_with fail
              go_ret
              exact ⟨rfl, Q5⟩
            · skip
              go_wp2_with fail
              refine (h11 _ hF).mono ?_
              rintro e w1 ⟨rfl, q1⟩
              have F1 := FootAt.below hF q1
              have Q1 := Below.trans hbD' (q1.mono (Below.size hbD'))
              have A1 := RowAt.below r0d q1
              have B1 := RowAt.below r1d q1
              clear q1 
              go_wp2_with fail
              refine (h12 _ F1).mono ?_
              rintro e w2 ⟨rfl, q2⟩
              have F2 := FootAt.below F1 q2
              have Q2 := Below.trans Q1 (q2.mono (Below.size Q1))
              have A2 := RowAt.below A1 q2
              have B2 := RowAt.below B1 q2
              clear q2 F1 Q1 A1 B1
              go_wp2_with fail
              refine (h21 _ F2).mono ?_
              rintro e w3 ⟨rfl, q3⟩
              have F3 := FootAt.below F2 q3
              have Q3 := Below.trans Q2 (q3.mono (Below.size Q2))
              have A3 := RowAt.below A2 q3
              have B3 := RowAt.below B2 q3
              clear q3 F2 Q2 A2 B2
              go_wp2_with fail
              refine (h23 _ F3).mono ?_
              rintro e w4 ⟨rfl, q4⟩
              have F4 := FootAt.below F3 q4
              have Q4 := Below.trans Q3 (q4.mono (Below.size Q3))
              have A4 := RowAt.below A3 q4
              have B4 := RowAt.below B3 q4
              clear q4 F3 Q3 A3 B3
              go_wp2_with fail
              refine (h13 _ F4).mono ?_
              rintro e w5 ⟨rfl, q5⟩
              have F5 := FootAt.below F4 q5
              have Q5 := Below.trans Q4 (q5.mono (Below.size Q4))
              have A5 := RowAt.below A4 q5
              have B5 := RowAt.below B4 q5
              clear q5 F4 Q4 A4 B4
              go_wp2_with fail
              refine (hX _ A5 B5).mono ?_
              rintro e w' ⟨rfl, rfl⟩
              go_wp2_with fail
              refine (hY _ A5 B5).mono ?_
              rintro e w' ⟨rfl, rfl⟩
              go_wp2_with fail
              go_ret
              exact ⟨rfl, Q5⟩
        · cases ka
          · skip
            go_wp2_with fail
            refine (h11 _ hF).mono ?_
            rintro e w1 ⟨rfl, q1⟩
            have F1 := FootAt.below hF q1
            have Q1 := Below.trans hbD' (q1.mono (Below.size hbD'))
            have A1 := RowAt.below r0d q1
            have B1 := RowAt.below r1d q1
            clear q1 
            go_wp2_with fail
            refine (h12 _ F1).mono ?_
            rintro e w2 ⟨rfl, q2⟩
            have F2 := FootAt.below F1 q2
            have Q2 := Below.trans Q1 (q2.mono (Below.size Q1))
            have A2 := RowAt.below A1 q2
            have B2 := RowAt.below B1 q2
            clear q2 F1 Q1 A1 B1
            go_wp2_with fail
            refine (h21 _ F2).mono ?_
            rintro e w3 ⟨rfl, q3⟩
            have F3 := FootAt.below F2 q3
            have Q3 := Below.trans Q2 (q3.mono (Below.size Q2))
            have A3 := RowAt.below A2 q3
            have B3 := RowAt.below B2 q3
            clear q3 F2 Q2 A2 B2
            go_wp2_with fail
            refine (h23 _ F3).mono ?_
            rintro e w4 ⟨rfl, q4⟩
            have F4 := FootAt.below F3 q4
            have Q4 := Below.trans Q3 (q4.mono (Below.size Q3))
            have A4 := RowAt.below A3 q4
            have B4 := RowAt.below B3 q4
            clear q4 F3 Q3 A3 B3
            go_wp2_with fail
            refine (h13 _ F4).mono ?_
            rintro e w5 ⟨rfl, q5⟩
            have F5 := FootAt.below F4 q5
            have Q5 := Below.trans Q4 (q5.mono (Below.size Q4))
            have A5 := RowAt.below A4 q5
            have B5 := RowAt.below B4 q5
            clear q5 F4 Q4 A4 B4
            go_wp2_with fail
            refine (hX _ A5 B5).mono ?_
            rintro e w' ⟨rfl, rfl⟩
            go_wp2_with fail
            go_ret
            exact ⟨rfl, Q5⟩
          · cases kb
            · skip
              go_wp2_with fail
              refine (h11 _ hF).mono ?_
              rintro e w1 ⟨rfl, q1⟩
              have F1 := FootAt.below hF q1
              have Q1 := Below.trans hbD' (q1.mono (Below.size hbD'))
              have A1 := RowAt.below r0d q1
              have B1 := RowAt.below r1d q1
              clear q1 
              go_wp2_with fail
              refine (h12 _ F1).mono ?_
              rintro e w2 ⟨rfl, q2⟩
              have F2 := FootAt.below F1 q2
              have Q2 := Below.trans Q1 (q2.mono (Below.size Q1))
              have A2 := RowAt.below A1 q2
              have B2 := RowAt.below B1 q2
              clear q2 F1 Q1 A1 B1
              go_wp2_with fail
              refine (h21 _ F2).mono ?_
              rintro e w3 ⟨rfl, q3⟩
              have F3 := FootAt.below F2 q3
              have Q3 := Below.trans Q2 (q3.mono (Below.size Q2))
              have A3 := RowAt.below A2 q3
              have B3 := RowAt.below B2 q3
              clear q3 F2 Q2 A2 B2
              go_wp2_with fail
              refine (h23 _ F3).mono ?_
              rintro e w4 ⟨rfl, q4⟩
              have F4 := FootAt.below F3 q4
              have Q4 := Below.trans Q3 (q4.mono (Below.size Q3))
              have A4 := RowAt.below A3 q4
              have B4 := RowAt.below B3 q4
              clear q4 F3 Q3 A3 B3
              go_wp2_with fail
              refine (h13 _ F4).mono ?_
              rintro e w5 ⟨rfl, q5⟩
              have F5 := FootAt.below F4 q5
              have Q5 := Below.trans Q4 (q5.mono (Below.size Q4))
              have A5 := RowAt.below A4 q5
              have B5 := RowAt.below B4 q5
              clear q5 F4 Q4 A4 B4
              go_wp2_with fail
              refine (hX _ A5 B5).mono ?_
              rintro e w' ⟨rfl, rfl⟩
              go_wp2_with fail
              refine (hY _ A5 B5).mono ?_
              rintro e w' ⟨rfl, rfl⟩
              go_wp2_with fail
              go_ret
              exact ⟨rfl, Q5⟩
            · skip
              go_wp2_with fail
              refine (h11 _ hF).mono ?_
              rintro e w1 ⟨rfl, q1⟩
              have F1 := FootAt.below hF q1
              have Q1 := Below.trans hbD' (q1.mono (Below.size hbD'))
              have A1 := RowAt.below r0d q1
              have B1 := RowAt.below r1d q1
              clear q1 
              go_wp2_with fail
              refine (h12 _ F1).mono ?_
              rintro e w2 ⟨rfl, q2⟩
              have F2 := FootAt.below F1 q2
              have Q2 := Below.trans Q1 (q2.mono (Below.size Q1))
              have A2 := RowAt.below A1 q2
              have B2 := RowAt.below B1 q2
              clear q2 F1 Q1 A1 B1
              go_wp2_with fail
              refine (h21 _ F2).mono ?_
              rintro e w3 ⟨rfl, q3⟩
              have F3 := FootAt.below F2 q3
              have Q3 := Below.trans Q2 (q3.mono (Below.size Q2))
              have A3 := RowAt.below A2 q3
              have B3 := RowAt.below B2 q3
              clear q3 F2 Q2 A2 B2
              go_wp2_with fail
              refine (h23 _ F3).mono ?_
              rintro e w4 ⟨rfl, q4⟩
              have F4 := FootAt.below F3 q4
              have Q4 := Below.trans Q3 (q4.mono (Below.size Q3))
              have A4 := RowAt.below A3 q4
              have B4 := RowAt.below B3 q4
              clear q4 F3 Q3 A3 B3
              go_wp2_with fail
              refine (h13 _ F4).mono ?_
              rintro e w5 ⟨rfl, q5⟩
              have F5 := FootAt.below F4 q5
              have Q5 := Below.trans Q4 (q5.mono (Below.size Q4))
              have A5 := RowAt.below A4 q5
              have B5 := RowAt.below B4 q5
              clear q5 F4 Q4 A4 B4
              go_wp2_with fail
              refine (hX _ A5 B5).mono ?_
              rintro e w' ⟨rfl, rfl⟩
              go_wp2_with fail
              refine (hY _ A5 B5).mono ?_
              rintro e w' ⟨rfl, rfl⟩
              go_wp2_with fail
              go_ret
              exact ⟨rfl, Q5⟩

end Go.Proofs.Qxb6604485a
