/-
  The walk of FnScanIDFieldSpec (3).
-/
import Derived.Test.Qxb6003322aFmtModel
import Derived.Test.Qxb6003322aFmtItoa
namespace Go.Proofs.Qxb6003322aFmt
open Go.RowKit Go.Extern.Stop Go.Stop Go.Extern

set_option maxHeartbeats 1000000 in
theorem bytes9 (a0 : Option Addr) (n0 c0 : Nat) (z : Int) (w : World) (h0 : n0 ≤ maxLen) :
    Calls Tryf.prog 9 #[.slice a0 n0 c0, .int .i64 z] w fun e w' => ∃ r, e = .returned (.bool r) ∧ (n0 ≤ 1048576 → r = true) ∧ w = w' := by
  unfold maxLen at h0
  go_enter Tryf.func9, Tryf.ntmps9
  go_wp2
  all_goals go_ret
  all_goals exact ⟨_, rfl, fun _ => by first | rfl | omega, rfl⟩
theorem isID_iff {zs : List Int} {i e : Nat} (h : i ≤ e) : IsID zs i e ↔ (Digs zs i (e - i) ∧ dv zs i (e - i) ≤ 9223372036854775807) :=
  ⟨fun ⟨h1, h2⟩ => ⟨fun j hj => h1 (i + j) (by omega) (by omega), h2⟩, fun ⟨h1, h2⟩ => ⟨fun j hj he => by have := h1 (j - i) (by omega); rwa [show i + (j - i) = j by omega] at this, h2⟩⟩
set_option maxHeartbeats 1000000 in
theorem zzScan (G n i : Nat) (zs : List Int) (w : World) (hn : n ≤ 65536) (row : BRow w (some ⟨G, 0, none⟩) n zs) (hz : Bytes zs) (hi : i < n) :
    Calls Tryf.prog 13 #[.slice (some ⟨G, 0, none⟩) n n, .int .i64 i] w fun e w' => ScanOut zs n i w e w' := by
  have hS := scan_any G n i zs w hn row hz hi
  clear row
  go_enter Tryf.func13, Tryf.ntmps13
  go_wp2_with fail
  refine hS.mono ?_
  rintro e w' ⟨hb, k, hF, ⟨hI, rfl⟩ | ⟨hI, p, rfl⟩⟩
  · go_wp2_with fail
    go_ret3
    exact ⟨hb, k, hF, Or.inl ⟨hI, rfl⟩⟩
  · go_wp2_with fail
    go_ret3
    exact ⟨hb, k, hF, Or.inr ⟨hI, p, rfl⟩⟩
theorem lead_digits {zs : List Int} {i L z0 : Nat} (hd : Digs zs i L) (hl : Lead zs i L z0) (hv : dv zs i L ≤ 9223372036854775807) (h0 : 0 < dv zs i L) : 10 ^ (L - z0 - 1) ≤ dv zs i L ∧ dv zs i L < 10 ^ (L - z0) ∧ L - z0 ≤ 19 := by
  have hlt := hl.1
  have h1 := hd.sub (a := z0) (b := L - z0) (by omega)
  have h2 := dv_lt h1
  have h3 : 10 ^ (L - z0 - 1) ≤ dv zs (i + z0) (L - z0) := by
    rcases hl.2.2 with h | h
    · rw [show L - z0 - 1 = 0 by omega]
      have := hl.val
      rw [Nat.pow_zero]
      omega
    · obtain ⟨m, hm⟩ : ∃ m, L - z0 = m + 1 := ⟨L - z0 - 1, by omega⟩
      rw [hm] at h1 ⊢
      exact dv_ge h1 h
  rw [hl.val] at hv ⊢
  refine ⟨h3, h2, ?_⟩
  rcases Nat.lt_or_ge 19 (L - z0) with h | h
  · have h5 : 10 ^ 19 ≤ 10 ^ (L - z0 - 1) := Nat.pow_le_pow_right (by omega) (by omega)
    have h4 : (10 : Nat) ^ 19 = 10000000000000000000 := by decide
    omega
  · exact h
theorem itoa_any {zs : List Int} {i L z0 : Nat} (w : World) (hd : Digs zs i L) (hl : Lead zs i L z0) (hv : dv zs i L ≤ 9223372036854775807) :
    Calls Tryf.prog 15 #[.int .i64 (dv zs i L : Nat)] w fun e w' => ∃ B c, e = .returned (.slice (some ⟨B, 0, none⟩) (L - z0) c) ∧ BRow w' (some ⟨B, 0, none⟩) (L - z0) (digs (dv zs i L) (L - z0)) ∧ Below w.heap.size w w' := by
  have hlt := hl.1
  rcases Nat.eq_zero_or_pos (dv zs i L) with h | h
  · have hm : L - z0 = 1 := by
      rcases hl.2.2 with h1 | h1
      · omega
      · obtain ⟨m, hm⟩ : ∃ m, L - z0 = m + 1 := ⟨L - z0 - 1, by omega⟩
        have h2 := hd.sub (a := z0) (b := L - z0) (by omega)
        rw [hm] at h2
        have h3 := dv_ge h2 h1
        have h4 := hl.val
        rw [hm, h] at h4
        have := Nat.pow_pos (a := 10) (n := m) (by omega)
        omega
    rw [h, hm]
    exact itoa_zero w
  · obtain ⟨h1, h2, h3⟩ := lead_digits hd hl hv h
    exact itoa_pos (dv zs i L) (L - z0) w hv h (by omega) h1 h2 h3
theorem digs_same {zs : List Int} {i L z0 j : Nat} (hd : Digs zs i L) (hl : Lead zs i L z0) (hj : j < L - z0) : (digs (dv zs i L) (L - z0)).getD j 0 = (zs.drop (i + z0)).getD j 0 := by
  have h1 := hd.sub (a := z0) (b := L - z0) (by have := hl.1; omega)
  rw [digs_at hj, hl.val, dv_digit h1 (by omega), show L - z0 - 1 - (L - z0 - 1 - j) = j by omega]
  have h2 := h1 j hj
  unfold isDig at h2
  rw [List.getD_eq_getElem?_getD (l := zs.drop (i + z0)), List.getElem?_drop, ← List.getD_eq_getElem?_getD]
  omega

theorem BRow.cut' {w : World} {b off n N : Nat} {zs : List Int} (h : BRow w (some ⟨b, 0, none⟩) N zs) (hn : off + n ≤ N) : BRow w (some ⟨b, off, none⟩) n (zs.drop off) := by
  refine ⟨by have := h.1; simp; omega, fun h0 => ?_⟩
  obtain ⟨b', off', hx, hc⟩ := h.2 (by omega)
  obtain ⟨rfl, rfl⟩ : b = b' ∧ 0 = off' := by simpa using hx
  refine ⟨b, off, rfl, fun i hi => ?_⟩
  have := hc (off + i) (by omega)
  rw [Nat.zero_add] at this
  rw [this, List.getD_eq_getElem?_getD (l := zs.drop off), List.getElem?_drop, ← List.getD_eq_getElem?_getD]

set_option maxRecDepth 20000 in
set_option maxHeartbeats 1000000 in
theorem law_long (a0 : Option Addr) (n c0 : Nat) (z : Int) (w : World) (h0 : n ≤ maxLen) (h : ¬ n ≤ 65536) :
    Calls Tryf.prog 3 #[.slice a0 n c0, .int .i64 z] w fun e w' => e = .returned (.bool true) ∧ Below w.heap.size w w' := by
  have hB := bytes9 a0 n c0 z w h0
  have h1 : (65536 : Int) < (n : Int) := by omega
  go_enter Tryf.func3, Tryf.ntmps3
  go_wp2_with fail
  refine hB.mono ?_
  rintro e w' ⟨r, rfl, _, rfl⟩
  cases r
  · go_wp2
    go_ret
    exact ⟨rfl, Below.refl _ _⟩
  · go_wp2
    go_ret
    exact ⟨rfl, Below.refl _ _⟩
set_option maxRecDepth 20000 in
set_option maxHeartbeats 1000000 in
theorem law_off (a0 : Option Addr) (n c0 : Nat) (z : Int) (w : World) (h : n ≤ 65536) (hz : z < 0 ∨ (n : Int) ≤ z) :
    Calls Tryf.prog 3 #[.slice a0 n c0, .int .i64 z] w fun e w' => e = .returned (.bool true) ∧ Below w.heap.size w w' := by
  have hB := bytes9 a0 n c0 z w (by unfold maxLen; omega)
  have h1 : ¬ (65536 : Int) < (n : Int) := by omega
  by_cases h2 : z < 0
  · go_enter Tryf.func3, Tryf.ntmps3
    go_wp2_with (go_at_call 9; refine hB.mono ?_; rintro e w' ⟨r, rfl, hr, rfl⟩; obtain rfl := hr (by omega))
    go_ret
    exact ⟨rfl, Below.refl _ _⟩
  · have h3 : (n : Int) ≤ z := by omega
    go_enter Tryf.func3, Tryf.ntmps3
    go_wp2_with (go_at_call 9; refine hB.mono ?_; rintro e w' ⟨r, rfl, hr, rfl⟩; obtain rfl := hr (by omega))
    go_ret
    exact ⟨rfl, Below.refl _ _⟩
set_option maxRecDepth 20000 in
set_option maxHeartbeats 1000000 in
theorem law_blank (b off n c0 i : Nat) (zs : List Int) (w : World) (h : n ≤ 65536) (hi : i < n) (g : w.cell? ⟨b, off + i, none⟩ = some (.int .u8 (zs.getD i 0))) (hbl : blank (zs.getD i 0) = true) :
    Calls Tryf.prog 3 #[.slice (some ⟨b, off, none⟩) n c0, .int .i64 i] w fun e w' => e = .returned (.bool true) ∧ Below w.heap.size w w' := by
  have hB := bytes9 (some ⟨b, off, none⟩) n c0 i w (by unfold maxLen; omega)
  have h1 : ¬ (65536 : Int) < (n : Int) := by omega
  have h2 : ¬ (i : Int) < 0 := by omega
  have h3 : ¬ (n : Int) ≤ (i : Int) := by omega
  have h4 : (i : Int) < (n : Int) := by omega
  have hL := blank10 (zs.getD i 0) w
  rw [hbl] at hL
  generalize zs.getD i 0 = y at g hL hbl
  clear hbl
  go_enter Tryf.func3, Tryf.ntmps3
  go_wp2_with (first | (go_at_call 9; refine hB.mono ?_; rintro e w' ⟨r, rfl, hr, rfl⟩; obtain rfl := hr (by omega)) | (go_at_call 10; refine hL.mono ?_; rintro e w' ⟨rfl, rfl⟩))
  go_ret
  exact ⟨rfl, Below.refl _ _⟩

set_option maxRecDepth 20000 in
set_option maxHeartbeats 4000000 in
theorem law_in (b off n c0 i : Nat) (zs : List Int) (w : World) (h : n ≤ 65536) (hi : i < n) (row : BRow w (some ⟨b, off, none⟩) n zs) (hz : Bytes zs) (hbl : blank (zs.getD i 0) = false) :
    Calls Tryf.prog 3 #[.slice (some ⟨b, off, none⟩) n c0, .int .i64 i] w fun e w' => e = .returned (.bool true) ∧ Below w.heap.size w w' := by
  have hB := bytes9 (some ⟨b, off, none⟩) n c0 i w (by unfold maxLen; omega)
  have hQ := clone_some ⟨b, off, none⟩ n c0 zs w (by omega) row
  have h1 : ¬ (65536 : Int) < (n : Int) := by omega
  have h2 : ¬ (i : Int) < 0 := by omega
  have h3 : ¬ (n : Int) ≤ (i : Int) := by omega
  have h4 : (i : Int) < (n : Int) := by omega
  have hL := blank10 (zs.getD i 0) w
  rw [hbl] at hL
  have HBL : Hid _ := hbl
  have g : w.cell? ⟨b, off + i, none⟩ = some (.int .u8 (zs.getD i 0)) := by
    obtain ⟨b', off', hx, hc⟩ := row.2 (by omega)
    obtain ⟨rfl, rfl⟩ : b = b' ∧ off = off' := by simpa using hx
    exact hc i hi
  clear row hbl
  go_enter Tryf.func3, Tryf.ntmps3
  go_wp2_with (first | (go_at_call 9; refine hB.mono ?_; rintro e w' ⟨r, rfl, hr, rfl⟩; obtain rfl := hr (by omega)) | (go_at_call 10; refine hL.mono ?_; rintro e w' ⟨rfl, rfl⟩))
  refine hQ.mono ?_
  rintro e wA ⟨rfl, rowA, hlA, bA⟩
  obtain ⟨G, hG⟩ : ∃ G, G = w.heap.size := ⟨_, rfl⟩
  rw [← hG] at rowA hlA ⊢
  have HROW : Hid (BRow wA (some ⟨G, 0, none⟩) n zs) := rowA
  have HBA : Hid _ := bA
  clear hB hQ hL g rowA hG bA
  go_wp2_with fail
  go_loop [5] (fun v => ∃ k : Nat, i ≤ k ∧ k ≤ n ∧ v = .int .i64 k ∧ ∀ j, i ≤ j → j < k → blank (zs.getD j 0) = false) (fun v => n + 1 - (intOf v).toNat)
  case atStart => exact ⟨i, Nat.le_refl _, by omega, rfl, fun j h1 h2 => by omega⟩
  case round =>
    obtain ⟨k, hik, hk, rfl, hin⟩ := hrel
    have HIN : Hid _ := hin
    clear hin
    by_cases hgo : k < n ∧ blank (zs.getD k 0) = false
    · obtain ⟨hlt, hb⟩ := hgo
      obtain ⟨z, hzb, hzz, g0⟩ := byte_at HROW.out hz hlt
      have hi2 : (k : Int) < (n : Int) := by omega
      have hBl := blank10 z wA
      have HB2 : Hid _ := hb
      rw [hzz] at hb
      rw [hb] at hBl
      clear hzz hb
      go_wp2_with (go_at_call 10; refine hBl.mono ?_; rintro e w' ⟨rfl, rfl⟩)
      go_round
      case rel => exact ⟨k + 1, by omega, by omega, by go_num, fun j h1 h2 => by
        by_cases e : j = k
        · subst e; exact HB2.out
        · exact HIN.out j h1 (by omega)⟩
      case measure => simp [intOf]; omega
    · have hFE : FieldEnd zs n i k := ⟨hik, hk, HIN.out, fun hlt => by
        cases hb : blank (zs.getD k 0) with
        | true => rfl
        | false => exact absurd ⟨hlt, hb⟩ hgo⟩
      have hik2 : i < k := by
        rcases Nat.lt_or_ge i k with h5 | h5
        · exact h5
        · obtain rfl : i = k := by omega
          have := hFE.last hi
          rw [HBL.out] at this
          cases this
      have hM := idModel G i (k - i) (n - i) zs wA (by omega) (by omega) (by omega) (fun j hj => byte_at HROW.out hz (show i + j < n by omega))
      have hk1 : (i : Int) ≤ (k : Int) := by omega
      have hk2 : (k : Int) ≤ (n : Int) := by omega
      have hk3 : ¬ n = i := by omega
      have HFE : Hid _ := hFE
      clear hFE
      by_cases hlt : k < n
      · have hb : blank (zs.getD k 0) = true := HFE.out.last hlt
        obtain ⟨z, hzb, hzz, g0⟩ := byte_at HROW.out hz hlt
        have hi2 : (k : Int) < (n : Int) := by omega
        have hBl := blank10 z wA
        rw [hzz] at hb
        rw [hb] at hBl
        clear hzz hb hgo
        go_wp2_with (go_at_call 10; refine hBl.mono ?_; rintro e w' ⟨rfl, rfl⟩)
        refine hM.mono ?_
        rintro e w' ⟨⟨q, rfl⟩, ⟨hno, rfl⟩ | ⟨hd, hv, z0, c', hl, rfl⟩⟩
        · go_wp2_with fail
          refine (zzScan G n i zs (wA.drewN q) h (BRow.drewN HROW.out q) hz hi).mono ?_
          rintro e w2 ⟨b2, k', hF', ⟨hI, rfl⟩ | ⟨hI, p, rfl⟩⟩
          · obtain rfl := hF'.same HFE.out
            exact absurd ((isID_iff hF'.le).1 hI) hno
          · obtain rfl := hF'.same HFE.out
            clear hM hno hI hF'
            have hne : ((k' : Int) != (k' : Int)) = false := by simp
            go_wp2_with fail
            go_ret
            exact ⟨rfl, (below_drewN HBA.out q).trans (b2.mono HBA.out.size)⟩
        · go_wp2_with fail
          refine (zzScan G n i zs (wA.drewN q) h (BRow.drewN HROW.out q) hz hi).mono ?_
          rintro e w2 ⟨b2, k', hF', ⟨hI, rfl⟩ | ⟨hI, p, rfl⟩⟩
          · obtain rfl := hF'.same HFE.out
            have hne : ((k' : Int) != (k' : Int)) = false := by simp
            have hIt := itoa_any w2 hd hl hv
            have hsame := fun j hj => digs_same (j := j) hd hl hj
            have hz0 := hl.1
            have hkn := hF'.top
            have HSM : Hid _ := hsame
            clear hM hI hF' hd hl hv hsame
            go_wp2_with fail
            refine hIt.mono ?_
            rintro e w3 ⟨B, c3, rfl, r3, b3⟩
            have rc : BRow w3 (some ⟨G, i + z0, none⟩) (k' - i - z0) (zs.drop (i + z0)) := (((BRow.drewN HROW.out q).below b2).below b3).cut' (by omega)
            have hEq := eq_true (some ⟨B, 0, none⟩) (some ⟨G, i + z0, none⟩) (k' - i - z0) c3 c' _ _ w3 (by omega) r3 rc HSM.out
            clear r3 rc hIt
            go_wp2_with fail
            refine hEq.mono ?_
            rintro e w4 ⟨rfl, q4, rfl⟩
            go_wp2_with fail
            go_ret
            exact ⟨rfl, below_drewN (((below_drewN HBA.out q).trans (b2.mono HBA.out.size)).trans (b3.mono (Nat.le_trans HBA.out.size b2.size))) _⟩
          · obtain rfl := hF'.same HFE.out
            exact absurd ((isID_iff hF'.le).2 ⟨hd, hv⟩) hI
      · have hi2 : ¬ (k : Int) < (n : Int) := by omega
        clear hgo
        go_wp2_with fail
        refine hM.mono ?_
        rintro e w' ⟨⟨q, rfl⟩, ⟨hno, rfl⟩ | ⟨hd, hv, z0, c', hl, rfl⟩⟩
        · go_wp2_with fail
          refine (zzScan G n i zs (wA.drewN q) h (BRow.drewN HROW.out q) hz hi).mono ?_
          rintro e w2 ⟨b2, k', hF', ⟨hI, rfl⟩ | ⟨hI, p, rfl⟩⟩
          · obtain rfl := hF'.same HFE.out
            exact absurd ((isID_iff hF'.le).1 hI) hno
          · obtain rfl := hF'.same HFE.out
            clear hM hno hI hF'
            have hne : ((k' : Int) != (k' : Int)) = false := by simp
            go_wp2_with fail
            go_ret
            exact ⟨rfl, (below_drewN HBA.out q).trans (b2.mono HBA.out.size)⟩
        · go_wp2_with fail
          refine (zzScan G n i zs (wA.drewN q) h (BRow.drewN HROW.out q) hz hi).mono ?_
          rintro e w2 ⟨b2, k', hF', ⟨hI, rfl⟩ | ⟨hI, p, rfl⟩⟩
          · obtain rfl := hF'.same HFE.out
            have hne : ((k' : Int) != (k' : Int)) = false := by simp
            have hIt := itoa_any w2 hd hl hv
            have hsame := fun j hj => digs_same (j := j) hd hl hj
            have hz0 := hl.1
            have hkn := hF'.top
            have HSM : Hid _ := hsame
            clear hM hI hF' hd hl hv hsame
            go_wp2_with fail
            refine hIt.mono ?_
            rintro e w3 ⟨B, c3, rfl, r3, b3⟩
            have rc : BRow w3 (some ⟨G, i + z0, none⟩) (k' - i - z0) (zs.drop (i + z0)) := (((BRow.drewN HROW.out q).below b2).below b3).cut' (by omega)
            have hEq := eq_true (some ⟨B, 0, none⟩) (some ⟨G, i + z0, none⟩) (k' - i - z0) c3 c' _ _ w3 (by omega) r3 rc HSM.out
            clear r3 rc hIt
            go_wp2_with fail
            refine hEq.mono ?_
            rintro e w4 ⟨rfl, q4, rfl⟩
            go_wp2_with fail
            go_ret
            exact ⟨rfl, below_drewN (((below_drewN HBA.out q).trans (b2.mono HBA.out.size)).trans (b3.mono (Nat.le_trans HBA.out.size b2.size))) _⟩
          · obtain rfl := hF'.same HFE.out
            exact absurd ((isID_iff hF'.le).2 ⟨hd, hv⟩) hI

theorem law3 (a0 : Option Addr) (n c0 : Nat) (z : Int) (zs : List Int) (w : World) (hm : n ≤ maxLen) (row : BRow w a0 n zs) (h0 : a0 = none → n = 0) (hz : Bytes zs) :
    Calls Tryf.prog 3 #[.slice a0 n c0, .int .i64 z] w fun e w' => e = .returned (.bool true) ∧ Below w.heap.size w w' := by
  by_cases hn : n ≤ 65536
  · by_cases h1 : z < 0 ∨ (n : Int) ≤ z
    · exact law_off a0 n c0 z w hn h1
    · obtain ⟨i, rfl⟩ := Int.eq_ofNat_of_zero_le (show 0 ≤ z by omega)
      have hi : i < n := by omega
      obtain ⟨b, off, rfl, hc⟩ := row.2 (by omega)
      cases hb : blank (zs.getD i 0) with
      | true => exact law_blank b off n c0 i zs w hn hi (hc i hi) hb
      | false => exact law_in b off n c0 i zs w hn hi row hz hb
  · exact law_long a0 n c0 z w hm hn
end Go.Proofs.Qxb6003322aFmt
