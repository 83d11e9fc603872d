/-
  The walk of FnOpaque8Exact (3).
-/
import Derived.Test.Qxb6604610aFmtRound
import Derived.LaidEqlPtr
namespace Go.Proofs.Qxb6604610aFmt
open Go.RowKit Go.Extern.Stop Go.Stop Go.Extern

set_option maxHeartbeats 1000000 in
theorem bytes8 (a0 : Option Addr) (n0 c0 : Nat) (w : World) (h0 : n0 ≤ maxLen) :
    Calls Tryf.prog 8 #[.slice a0 n0 c0] w fun e w' => ∃ r, e = .returned (.bool r) ∧ (n0 ≤ 1048576 → r = true) ∧ w = w' := by
  unfold maxLen at h0
  go_enter Tryf.func8, Tryf.ntmps8
  go_wp2
  all_goals go_ret
  all_goals exact ⟨_, rfl, fun _ => by first | rfl | omega, rfl⟩

set_option maxRecDepth 20000 in
set_option maxHeartbeats 1000000 in
theorem exact_out (a0 : Option Addr) (n0 c0 : Nat) (w : World) (h0 : n0 ≤ maxLen) (h : ¬ n0 ≤ 1048576) :
    Calls Tryf.prog 3 #[.slice a0 n0 c0] w fun e w' => e = .returned (.bool true) ∧ Below w.heap.size w w' := by
  have hB := bytes8 a0 n0 c0 w h0
  unfold maxLen at h0
  go_enter Tryf.func3, Tryf.ntmps3
  go_wp2_with fail
  refine hB.mono ?_
  rintro e w' ⟨r, rfl, _, rfl⟩
  cases r
  · go_wp2
    go_ret
    exact ⟨rfl, Below.refl _ _⟩
  · go_wp2
    go_ret
    exact ⟨rfl, Below.refl _ _⟩

theorem nil_nil : ∀ w, (binOp .eql 22 (.slice none 0 0) (.slice none 0 0)).run Tryf.prog w = .ok (.bool true) w := fun w => by
  have := Lib.run_eql_slice_nil (P := Tryf.prog) w 22 5 none 0 0 0 0 Tryf.underlying22
  simpa using this

theorem ptr_self : ∀ (b off : Nat) (w : World), (binOp .neq 36 (.pointer (some ⟨b, off, none⟩)) (.pointer (some ⟨b, off, none⟩))).run Tryf.prog w = .ok (.bool false) w := fun b off w => by
  obtain ⟨j, hj, _⟩ := info_parts Tryf.info5
  have h := run_eql_ptr_same (P := Tryf.prog) w ⟨b, off, none⟩ Tryf.underlying36 hj
  simp only [binOp] at h ⊢
  cases hq : (Op.equal 36 (.pointer (some ⟨b, off, none⟩)) (.pointer (some ⟨b, off, none⟩))).run Tryf.prog w with
  | ok v w' => simp [hq, Result.andThen] at h ⊢; exact ⟨by simp [h.1], h.2⟩
  | halt e w' => simp [hq, Result.andThen] at h

set_option maxRecDepth 20000 in
set_option maxHeartbeats 2000000 in
theorem exact_empty (a0 : Option Addr) (c0 : Nat) (zs : List Int) (w : World) (r0 : BRow w a0 0 zs) :
    Calls Tryf.prog 3 #[.slice a0 0 c0] w fun e w' => e = .returned (.bool true) ∧ Below w.heap.size w w' := by
  have hB := bytes8 a0 0 c0 w (by unfold maxLen; omega)
  have hQ := clone_any a0 0 c0 zs w (by omega) r0 (fun _ => rfl)
  have hnn := nil_nil
  go_enter Tryf.func3, Tryf.ntmps3
  go_wp2_with (go_at_call 8; refine hB.mono ?_; rintro e w' ⟨r, rfl, hr, rfl⟩; obtain rfl := hr (by omega))
  refine hQ.mono ?_
  rintro e wA ⟨b0, d0, rfl, r0a, hbA⟩
  clear hB hQ r0 r0a
  go_wp2_with fail
  refine (newReader_any b0 0 d0 wA).mono ?_
  rintro e wC ⟨rfl, hrC, hbC⟩
  have hbC' : Below w.heap.size w wC := hbA.trans (hbC.mono hbA.size)
  have hpw : w.heap.size ≤ wA.heap.size := hbA.size
  have hO := opaque_short wA.heap.size 0 0 _ wC hrC (Nat.le_refl _) (by omega) (by omega)
  clear hrC hbC hbA
  go_wp2_with fail
  refine hO.mono ?_
  rintro e wD ⟨rfl, pe, hrD, hfD, hnD, hoD⟩
  have hbD' : Below w.heap.size w wD := hbC'.trans (hoD.below hpw hbC'.size)
  have hFa := fault_err wA.heap.size 0 0 pe 0 _ wD hrD hfD
  have hEn := fun q => end_any wA.heap.size 0 0 _ _ (wD.drewN q) (hrD.drewN q)
  have hOf := fun q => off_any wA.heap.size 0 0 _ _ (wD.drewN q) (hrD.drewN q)
  have hMo := fun q => more_err wA.heap.size 0 0 pe _ (wD.drewN q) (hrD.drewN q)
  have hFi := fun q => finish_err wA.heap.size 0 0 pe _ (wD.drewN q) (hrD.drewN q)
  clear hO hoD hrD hfD hbC'
  go_wp2_with (first | (go_at_call 12; refine hFa.mono ?_; rintro e w' ⟨⟨s, rfl⟩, q3, rfl⟩) | (go_at_call 13; refine (hEn _).mono ?_; rintro e w' ⟨rfl, rfl⟩) | (go_at_call 14; refine (hOf _).mono ?_; rintro e w' ⟨rfl, rfl⟩) | (go_at_call 15; refine (hMo _).mono ?_; rintro e w' ⟨rfl, q4, rfl⟩) | (go_at_call 16; refine (hFi _).mono ?_; rintro e w' ⟨rfl, q5, rfl⟩))
  go_ret
  exact ⟨rfl, below_drewN hbD' _⟩

set_option maxRecDepth 20000 in
set_option maxHeartbeats 2000000 in
theorem exact_past (x : Addr) (n c0 L : Nat) (zs : List Int) (w : World) (hn : n ≤ 1048576) (h0 : 0 < n) (r0 : BRow w (some x) n zs) (hz : Bytes zs) (hL : zs.getD 0 0 = L) (hp : n < 1 + L) :
    Calls Tryf.prog 3 #[.slice (some x) n c0] w fun e w' => e = .returned (.bool true) ∧ Below w.heap.size w w' := by
  have hnn := nil_nil
  have HL : Hid (zs.getD 0 0 = (L : Int)) := hL
  have hL255 : L ≤ 255 := by have := hz 0; omega
  clear hL
  have hB := bytes8 (some x) n c0 w (by unfold maxLen; omega)
  have hQ := clone_some x n c0 zs w (by omega) r0
  go_enter Tryf.func3, Tryf.ntmps3
  go_wp2_with (go_at_call 8; refine hB.mono ?_; rintro e w' ⟨r, rfl, hr, rfl⟩; obtain rfl := hr (by omega))
  refine hQ.mono ?_
  rintro e wA ⟨rfl, r0a, hlA, hbA⟩
  obtain ⟨G, hG⟩ : ∃ G, G = w.heap.size := ⟨_, rfl⟩
  rw [← hG] at r0a hlA ⊢
  have HG : Hid (G = w.heap.size) := hG
  clear hB hQ r0 hG
  go_wp2_with fail
  refine (newReader_any (some ⟨G, 0, none⟩) n n wA).mono ?_
  rintro e wC ⟨rfl, hrC, hbC⟩
  have hbC' : Below w.heap.size w wC := hbA.trans (hbC.mono hbA.size)
  have hpw : w.heap.size ≤ wA.heap.size := hbA.size
  have rowC := r0a.below hbC
  have hO := opaque_past wA.heap.size 0 n G n n zs wC hrC (by omega) rowC hz (Nat.le_refl _) (Nat.le_refl _) (by omega) L HL.out (by omega) (by omega)
  clear hrC hbC hbA r0a
  go_wp2_with fail
  refine hO.mono ?_
  rintro e wD ⟨rfl, pe, hrD, hfD, hnD, hoD⟩
  have rowD := rowC.only' hoD (fun y hy _ => by cases hy; show G ≠ _; omega)
  have hbD' : Below w.heap.size w wD := hbC'.trans (hoD.below hpw hbC'.size)
  rw [Nat.zero_add] at hrD
  have hFa := fault_err wA.heap.size 1 n pe 0 _ wD hrD hfD
  have hEn := fun q => end_any wA.heap.size 1 n _ _ (wD.drewN q) (hrD.drewN q)
  have hOf := fun q => off_any wA.heap.size 1 n _ _ (wD.drewN q) (hrD.drewN q)
  have hMo := fun q => more_err wA.heap.size 1 n pe _ (wD.drewN q) (hrD.drewN q)
  have hFi := fun q => finish_err wA.heap.size 1 n pe _ (wD.drewN q) (hrD.drewN q)
  have g0 : wD.cell? ⟨G, 0, none⟩ = some (.int .u8 (L : Int)) := by
    obtain ⟨b', off', hx, hc⟩ := rowD.2 h0
    obtain ⟨rfl, rfl⟩ : G = b' ∧ 0 = off' := by simpa using hx
    have := hc 0 h0
    rw [HL.out] at this
    exact this
  have hne : ((n : Int) == 0) = false := by simp; omega
  have hlz : (0 : Int) < (n : Int) := by omega
  clear hO hoD hrD hfD hbC' rowC rowD
  go_wp2_with (first | (go_at_call 12; refine hFa.mono ?_; rintro e w' ⟨⟨s, rfl⟩, q3, rfl⟩) | (go_at_call 13; refine (hEn _).mono ?_; rintro e w' ⟨rfl, rfl⟩) | (go_at_call 14; refine (hOf _).mono ?_; rintro e w' ⟨rfl, rfl⟩) | (go_at_call 15; refine (hMo _).mono ?_; rintro e w' ⟨rfl, q4, rfl⟩) | (go_at_call 16; refine (hFi _).mono ?_; rintro e w' ⟨rfl, q5, rfl⟩))
  go_ret
  exact ⟨rfl, below_drewN hbD' _⟩

set_option maxRecDepth 20000 in
set_option maxHeartbeats 4000000 in
theorem exact_pos (x : Addr) (n c0 L : Nat) (zs : List Int) (w : World) (hn : n ≤ 1048576) (h0 : 0 < n) (r0 : BRow w (some x) n zs) (hz : Bytes zs) (hL : zs.getD 0 0 = L) (hp : 1 + L ≤ n) (hpos : 0 < L) :
    Calls Tryf.prog 3 #[.slice (some x) n c0] w fun e w' => e = .returned (.bool true) ∧ Below w.heap.size w w' := by
  have HL : Hid (zs.getD 0 0 = (L : Int)) := hL
  have hL255 : L ≤ 255 := by have := hz 0; omega
  clear hL
  have hB := bytes8 (some x) n c0 w (by unfold maxLen; omega)
  have hQ := clone_some x n c0 zs w (by omega) r0
  go_enter Tryf.func3, Tryf.ntmps3
  go_wp2_with (go_at_call 8; refine hB.mono ?_; rintro e w' ⟨r, rfl, hr, rfl⟩; obtain rfl := hr (by omega))
  refine hQ.mono ?_
  rintro e wA ⟨rfl, r0a, hlA, hbA⟩
  obtain ⟨G, hG⟩ : ∃ G, G = w.heap.size := ⟨_, rfl⟩
  rw [← hG] at r0a hlA ⊢
  have HG : Hid (G = w.heap.size) := hG
  clear hB hQ r0 hG
  go_wp2_with fail
  refine (newReader_any (some ⟨G, 0, none⟩) n n wA).mono ?_
  rintro e wC ⟨rfl, hrC, hbC⟩
  have hbC' : Below w.heap.size w wC := hbA.trans (hbC.mono hbA.size)
  have hpw : w.heap.size ≤ wA.heap.size := hbA.size
  have rowC := r0a.below hbC
  have hO := opaque_ok wA.heap.size 0 n G n n zs wC hrC (by omega) rowC hz (Nat.le_refl _) (Nat.le_refl _) (by omega) L HL.out (by omega)
  rw [show 0 + 1 = 1 from rfl] at hO
  rw [cutA_pos G 1 L hpos] at hO
  have hnl := fun w a n c => Lib.run_eql_slice_nil (P := Tryf.prog) w 22 5 a n c 0 0 Tryf.underlying22
  have hlp : (0 : Int) < (L : Int) := by omega
  have h1n : (1 : Int) < (n : Int) := by omega
  have hpp := ptr_self
  have hn1 : ¬ n = 1 := by omega
  clear hrC hbC hbA r0a
  go_wp2_with fail
  refine hO.mono ?_
  rintro e wD ⟨rfl, hrD, hoD⟩
  have rowD := rowC.only' hoD (fun y hy _ => by cases hy; show G ≠ _; omega)
  have hbD' : Below w.heap.size w wD := hbC'.trans (hoD.below hpw hbC'.size)
  have hFa := fault_ok wA.heap.size (1 + L) n _ wD hrD
  have hEn := end_any wA.heap.size (1 + L) n _ _ wD hrD
  have hOf := fun q => off_any wA.heap.size (1 + L) n _ _ (wD.drewN q) (hrD.drewN q)
  rw [show ((1 + L : Nat) : Int) = 1 + (L : Int) by omega] at hOf
  have hMo := fun q => more_ok wA.heap.size (1 + L) n _ (wD.drewN q) (hrD.drewN q)
  have g0 : wD.cell? ⟨G, 0, none⟩ = some (.int .u8 (L : Int)) := by
    obtain ⟨b', off', hx, hc⟩ := rowD.2 h0
    obtain ⟨rfl, rfl⟩ : G = b' ∧ 0 = off' := by simpa using hx
    have := hc 0 h0
    rw [HL.out] at this
    exact this
  have hne : ((n : Int) == 0) = false := by simp; omega
  have hlz : (0 : Int) < (n : Int) := by omega
  have hle : (1 : Int) + (L : Int) ≤ (n : Int) := by omega
  have HR : Hid (Rd wD wA.heap.size (.slice (some ⟨G, 0, none⟩) n n) (1 + L) n .nilIface) := hrD
  clear hO hoD hrD hbC' rowC
  go_wp2_with (first | (go_at_call 12; refine hFa.mono ?_; rintro e w' ⟨rfl, rfl⟩) | (go_at_call 13; refine hEn.mono ?_; rintro e w' ⟨rfl, rfl⟩))
  refine (eq_true _ _ L L _ (zs.drop 1) (zs.drop 1) wD (by omega) ((cutA_pos G 1 L hpos) ▸ rowD.cut (by omega)) ((cutA_pos G 1 L hpos) ▸ rowD.cut (by omega)) (fun _ _ => rfl)).mono ?_
  rintro e w' ⟨rfl, q, rfl⟩
  clear hFa hEn
  go_wp2_with fail
  go_quiet (fail)
  by_cases he : 1 + L = n
  · have hr2 : Rd wD wA.heap.size (.slice (some ⟨G, 0, none⟩) n n) n n .nilIface := by
      have h := HR.out
      rw [he] at h
      exact h
    have hd : decide (1 + L < n) = false := by simp; omega
    have hz2 : (1 : Int) + (L : Int) = (n : Int) := by omega
    rw [hd] at hMo
    rw [hz2] at hOf
    have hdz : decide ((1 : Int) + (L : Int) < (n : Int)) = false := by simp; omega
    have hb2 : ((1 : Int) + (L : Int) != (n : Int)) = false := by simp; omega
    have hFi := fun q => finish_ok wA.heap.size n _ (wD.drewN q) (hr2.drewN q)
    have hFb := fun q => fault_ok wA.heap.size n n _ (wD.drewN q) (hr2.drewN q)
    clear HR hr2 hd rowD
    go_wp2_with (first | (go_at_call 14; refine (hOf _).mono ?_; rintro e w' ⟨rfl, rfl⟩) | (go_at_call 15; refine (hMo _).mono ?_; rintro e w' ⟨rfl, q4, rfl⟩) | (go_at_call 16; refine (hFi _).mono ?_; rintro e w' ⟨rfl, q5, rfl⟩) | (go_at_call 12; refine (hFb _).mono ?_; rintro e w' ⟨rfl, rfl⟩))
    go_ret
    exact ⟨rfl, below_drewN hbD' _⟩
  · have hlt : 1 + L < n := by omega
    have hd : decide (1 + L < n) = true := by simp; omega
    rw [hd] at hMo
    have hdz : decide ((1 : Int) + (L : Int) < (n : Int)) = true := by simp; omega
    have hb2 : ((1 : Int) + (L : Int) != (n : Int)) = true := by simp; omega
    have hFi := fun q => finish_left wA.heap.size (1 + L) n _ (wD.drewN q) (HR.out.drewN q) hlt (by omega)
    clear hd rowD
    go_wp2_with (first | (go_at_call 14; refine (hOf _).mono ?_; rintro e w' ⟨rfl, rfl⟩) | (go_at_call 15; refine (hMo _).mono ?_; rintro e w' ⟨rfl, q4, rfl⟩))
    refine (hFi _).mono ?_
    rintro e wE ⟨pe, rfl, hrE, hfE, hoE⟩
    have hbE' : Below w.heap.size w wE := (below_drewN hbD' _).trans (hoE.below hpw hbD'.size)
    have hFb := fault_err wA.heap.size (1 + L) n pe (1 + L) _ wE hrE hfE
    rw [show ((1 + L : Nat) : Int) = 1 + (L : Int) by omega] at hFb
    clear hFi hMo hOf hrE hfE hoE
    go_wp2_with (go_at_call 12; refine hFb.mono ?_; rintro e w' ⟨⟨s, rfl⟩, q6, rfl⟩)
    go_ret
    exact ⟨rfl, below_drewN hbE' _⟩

end Go.Proofs.Qxb6604610aFmt
