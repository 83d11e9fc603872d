/-
  The walk of FnOpaque8Exact (3).
-/
import Derived.Test.Qxb6604610aFmtExact
import Derived.LaidEqlPtr
namespace Go.Proofs.Qxb6604610aFmt
open Go.RowKit Go.Extern.Stop Go.Stop Go.Extern

set_option maxRecDepth 20000 in
set_option maxHeartbeats 4000000 in
theorem exact_zero_more (x : Addr) (n c0 L : Nat) (zs : List Int) (w : World) (hn : n ≤ 1048576) (h0 : 0 < n) (r0 : BRow w (some x) n zs) (hz : Bytes zs) (hL : zs.getD 0 0 = L) (hp : 1 + L ≤ n) (hpos : L = 0) (hn1 : ¬ n = 1) :
    Calls Tryf.prog 3 #[.slice (some x) n c0] w fun e w' => e = .returned (.bool true) ∧ Below w.heap.size w w' := by
  subst hpos
  have HL : Hid (zs.getD 0 0 = ((0 : Nat) : Int)) := hL
  have hL255 : 0 ≤ 255 := by have := hz 0; omega
  clear hL
  have hB := bytes8 (some x) n c0 w (by unfold maxLen; omega)
  have hQ := clone_some x n c0 zs w (by omega) r0
  go_enter Tryf.func3, Tryf.ntmps3
  go_wp2_with (go_at_call 8; refine hB.mono ?_; rintro e w' ⟨r, rfl, hr, rfl⟩; obtain rfl := hr (by omega))
  refine hQ.mono ?_
  rintro e wA ⟨rfl, r0a, hlA, hbA⟩
  obtain ⟨G, hG⟩ : ∃ G, G = w.heap.size := ⟨_, rfl⟩
  rw [← hG] at r0a hlA ⊢
  have HG : Hid (G = w.heap.size) := hG
  clear hB hQ r0 hG
  go_wp2_with fail
  refine (newReader_any (some ⟨G, 0, none⟩) n n wA).mono ?_
  rintro e wC ⟨rfl, hrC, hbC⟩
  have hbC' : Below w.heap.size w wC := hbA.trans (hbC.mono hbA.size)
  have hpw : w.heap.size ≤ wA.heap.size := hbA.size
  have rowC := r0a.below hbC
  have hO := opaque_ok wA.heap.size 0 n G n n zs wC hrC (by omega) rowC hz (Nat.le_refl _) (Nat.le_refl _) (by omega) 0 HL.out (by omega)
  rw [show 0 + 1 = 1 from rfl] at hO
  have hcn := cut_nil
  clear hrC hbC hbA r0a
  go_wp2_with fail
  refine hO.mono ?_
  rintro e wD ⟨rfl, hrD, hoD⟩
  have rowD := rowC.only' hoD (fun y hy _ => by cases hy; show G ≠ _; omega)
  have hbD' : Below w.heap.size w wD := hbC'.trans (hoD.below hpw hbC'.size)
  have hFa := fault_ok wA.heap.size (1 + 0) n _ wD hrD
  have hEn := end_any wA.heap.size (1 + 0) n _ _ wD hrD
  have hOf := fun q => off_any wA.heap.size (1 + 0) n _ _ (wD.drewN q) (hrD.drewN q)
  rw [show ((1 + 0 : Nat) : Int) = 1 + (0 : Int) by omega] at hOf
  have hMo := fun q => more_ok wA.heap.size (1 + 0) n _ (wD.drewN q) (hrD.drewN q)
  have g0 : wD.cell? ⟨G, 0, none⟩ = some (.int .u8 (0 : Int)) := by
    obtain ⟨b', off', hx, hc⟩ := rowD.2 h0
    obtain ⟨rfl, rfl⟩ : G = b' ∧ 0 = off' := by simpa using hx
    have := hc 0 h0
    rw [HL.out] at this
    exact this
  have hne : ((n : Int) == 0) = false := by simp <;> omega
  have hlz : (0 : Int) < (n : Int) := by omega
  have hle : (1 : Int) + (0 : Int) ≤ (n : Int) := by omega
  have HR : Hid (Rd wD wA.heap.size (.slice (some ⟨G, 0, none⟩) n n) (1 + 0) n .nilIface) := hrD
  clear hO hoD hrD hbC' rowC
  go_wp2_with (first | (go_at_call 12; refine hFa.mono ?_; rintro e w' ⟨rfl, rfl⟩) | (go_at_call 13; refine hEn.mono ?_; rintro e w' ⟨rfl, rfl⟩))
  refine (eq_true _ _ 0 0 _ (zs.drop 1) (zs.drop 1) wD (by omega) ⟨Nat.zero_le _, fun h => absurd h (Nat.lt_irrefl _)⟩ ⟨Nat.zero_le _, fun h => absurd h (Nat.lt_irrefl _)⟩ (fun _ _ => rfl)).mono ?_
  rintro e w' ⟨rfl, q, rfl⟩
  clear hFa hEn
  go_wp2_with fail
  go_quiet (fail)
  have h1n : (1 : Int) < (n : Int) := by omega
  have h1d : decide ((1 : Int) < (n : Int)) = true := by simp <;> omega
  have h1e : ((1 : Int) != (n : Int)) = true := by simp <;> omega
  have hlt : 1 + 0 < n := by omega
  have hd : decide (1 + 0 < n) = true := by simp <;> omega
  rw [hd] at hMo
  have hdz : decide ((1 : Int) + (0 : Int) < (n : Int)) = true := by simp <;> omega
  have hb2 : ((1 : Int) + (0 : Int) != (n : Int)) = true := by simp <;> omega
  have hFi := fun q => finish_left wA.heap.size (1 + 0) n _ (wD.drewN q) (HR.out.drewN q) hlt (by omega)
  clear hd rowD
  go_wp2_with (first | (go_at_call 14; refine (hOf _).mono ?_; rintro e w' ⟨rfl, rfl⟩) | (go_at_call 15; refine (hMo _).mono ?_; rintro e w' ⟨rfl, q4, rfl⟩))
  refine (hFi _).mono ?_
  rintro e wE ⟨pe, rfl, hrE, hfE, hoE⟩
  have hbE' : Below w.heap.size w wE := (below_drewN hbD' _).trans (hoE.below hpw hbD'.size)
  have hFb := fault_err wA.heap.size (1 + 0) n pe (1 + 0) _ wE hrE hfE
  rw [show ((1 + 0 : Nat) : Int) = 1 + (0 : Int) by omega] at hFb
  clear hFi hMo hOf hrE hfE hoE
  go_wp2_with (go_at_call 12; refine hFb.mono ?_; rintro e w' ⟨⟨s, rfl⟩, q6, rfl⟩)
  go_ret
  exact ⟨rfl, below_drewN hbE' _⟩

set_option maxRecDepth 20000 in
set_option maxHeartbeats 4000000 in
theorem exact_zero_one (x : Addr) (n c0 L : Nat) (zs : List Int) (w : World) (hn : n ≤ 1048576) (h0 : 0 < n) (r0 : BRow w (some x) n zs) (hz : Bytes zs) (hL : zs.getD 0 0 = L) (hp : 1 + L ≤ n) (hpos : L = 0) (hn1 : n = 1) :
    Calls Tryf.prog 3 #[.slice (some x) n c0] w fun e w' => e = .returned (.bool true) ∧ Below w.heap.size w w' := by
  subst hpos
  subst hn1
  have HL : Hid (zs.getD 0 0 = ((0 : Nat) : Int)) := hL
  have hL255 : 0 ≤ 255 := by have := hz 0; omega
  clear hL
  have hB := bytes8 (some x) 1 c0 w (by unfold maxLen; omega)
  have hQ := clone_some x 1 c0 zs w (by omega) r0
  go_enter Tryf.func3, Tryf.ntmps3
  go_wp2_with (go_at_call 8; refine hB.mono ?_; rintro e w' ⟨r, rfl, hr, rfl⟩; obtain rfl := hr (by omega))
  refine hQ.mono ?_
  rintro e wA ⟨rfl, r0a, hlA, hbA⟩
  obtain ⟨G, hG⟩ : ∃ G, G = w.heap.size := ⟨_, rfl⟩
  rw [← hG] at r0a hlA ⊢
  have HG : Hid (G = w.heap.size) := hG
  clear hB hQ r0 hG
  go_wp2_with fail
  refine (newReader_any (some ⟨G, 0, none⟩) 1 1 wA).mono ?_
  rintro e wC ⟨rfl, hrC, hbC⟩
  have hbC' : Below w.heap.size w wC := hbA.trans (hbC.mono hbA.size)
  have hpw : w.heap.size ≤ wA.heap.size := hbA.size
  have rowC := r0a.below hbC
  have hO := opaque_ok wA.heap.size 0 1 G 1 1 zs wC hrC (by omega) rowC hz (Nat.le_refl _) (Nat.le_refl _) (by omega) 0 HL.out (by omega)
  rw [show 0 + 1 = 1 from rfl] at hO
  have hcn := cut_nil
  clear hrC hbC hbA r0a
  go_wp2_with fail
  refine hO.mono ?_
  rintro e wD ⟨rfl, hrD, hoD⟩
  have rowD := rowC.only' hoD (fun y hy _ => by cases hy; show G ≠ _; omega)
  have hbD' : Below w.heap.size w wD := hbC'.trans (hoD.below hpw hbC'.size)
  have hFa := fault_ok wA.heap.size (1 + 0) 1 _ wD hrD
  have hEn := end_any wA.heap.size (1 + 0) 1 _ _ wD hrD
  have hOf := fun q => off_any wA.heap.size (1 + 0) 1 _ _ (wD.drewN q) (hrD.drewN q)
  rw [show ((1 + 0 : Nat) : Int) = 1 + (0 : Int) by omega] at hOf
  have hMo := fun q => more_ok wA.heap.size (1 + 0) 1 _ (wD.drewN q) (hrD.drewN q)
  have g0 : wD.cell? ⟨G, 0, none⟩ = some (.int .u8 (0 : Int)) := by
    obtain ⟨b', off', hx, hc⟩ := rowD.2 h0
    obtain ⟨rfl, rfl⟩ : G = b' ∧ 0 = off' := by simpa using hx
    have := hc 0 h0
    rw [HL.out] at this
    exact this
  have hne : ((1 : Int) == 0) = false := by simp <;> omega
  have hlz : (0 : Int) < (1 : Int) := by omega
  have hle : (1 : Int) + (0 : Int) ≤ (1 : Int) := by omega
  have HR : Hid (Rd wD wA.heap.size (.slice (some ⟨G, 0, none⟩) 1 1) (1 + 0) 1 .nilIface) := hrD
  clear hO hoD hrD hbC' rowC
  go_wp2_with (first | (go_at_call 12; refine hFa.mono ?_; rintro e w' ⟨rfl, rfl⟩) | (go_at_call 13; refine hEn.mono ?_; rintro e w' ⟨rfl, rfl⟩))
  refine (eq_true _ _ 0 0 _ (zs.drop 1) (zs.drop 1) wD (by omega) ⟨Nat.zero_le _, fun h => absurd h (Nat.lt_irrefl _)⟩ ⟨Nat.zero_le _, fun h => absurd h (Nat.lt_irrefl _)⟩ (fun _ _ => rfl)).mono ?_
  rintro e w' ⟨rfl, q, rfl⟩
  clear hFa hEn
  go_wp2_with fail
  go_quiet (fail)
  have he : 1 + 0 = 1 := rfl
  have hr2 : Rd wD wA.heap.size (.slice (some ⟨G, 0, none⟩) 1 1) 1 1 .nilIface := by
    have h := HR.out
    rw [he] at h
    exact h
  have hd : decide (1 + 0 < 1) = false := by simp <;> omega
  have hz2 : (1 : Int) + (0 : Int) = (1 : Int) := by omega
  rw [hd] at hMo
  rw [hz2] at hOf
  have hdz : decide ((1 : Int) + (0 : Int) < (1 : Int)) = false := by simp <;> omega
  have hb2 : ((1 : Int) + (0 : Int) != (1 : Int)) = false := by simp <;> omega
  have hFi := fun q => finish_ok wA.heap.size 1 _ (wD.drewN q) (hr2.drewN q)
  have hFb := fun q => fault_ok wA.heap.size 1 1 _ (wD.drewN q) (hr2.drewN q)
  clear HR hr2 hd rowD
  go_wp2_with (first | (go_at_call 14; refine (hOf _).mono ?_; rintro e w' ⟨rfl, rfl⟩) | (go_at_call 15; refine (hMo _).mono ?_; rintro e w' ⟨rfl, q4, rfl⟩) | (go_at_call 16; refine (hFi _).mono ?_; rintro e w' ⟨rfl, q5, rfl⟩) | (go_at_call 12; refine (hFb _).mono ?_; rintro e w' ⟨rfl, rfl⟩))
  go_ret
  exact ⟨rfl, below_drewN hbD' _⟩

end Go.Proofs.Qxb6604610aFmt
