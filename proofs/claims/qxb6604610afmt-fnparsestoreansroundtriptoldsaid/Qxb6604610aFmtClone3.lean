/-
  cloneReps_b1 (31).
-/
import Derived.Test.Qxb6604610aFmtDeep7
namespace Go.Proofs.Qxb6604610aFmt
open Go.RowKit Go.Extern.Stop Go.Stop Go.Extern

theorem Tryf.info56 : (Tryf.prog.info? 56).map (fun i => (i.zero, i.size, i.bytes)) = some (some (.slice none 0 0), 1, 24) := by kernel_rfl
/-- What the copy's row i is to be. -/
def QO (lo : Nat) (w : World) (N : Nat → Nat) (L : Nat → Nat → Nat) (Z : Nat → Nat → List Int) (i : Nat) (v : Value) : Prop := ∃ ai ci, v = .slice ai (N i) ci ∧ Row2 lo w ai (N i) (L i) (Z i)
def QI (lo : Nat) (w : World) (L : Nat → Nat) (Z : Nat → List Int) (j : Nat) (v : Value) : Prop := ∃ aj cj, v = .slice aj (L j) cj ∧ BRowL lo w aj (L j) (Z j)
theorem QO.stay {lo : Nat} {w w' : World} {N : Nat → Nat} {L : Nat → Nat → Nat} {Z : Nat → Nat → List Int} {i : Nat} {v : Value} (h : QO lo w N L Z i v) (k : Stay lo w w') : QO lo w' N L Z i v := by
  obtain ⟨a, c, h1, h2⟩ := h
  exact ⟨a, c, h1, h2.stay k⟩
theorem QI.stay {lo : Nat} {w w' : World} {L : Nat → Nat} {Z : Nat → List Int} {i : Nat} {v : Value} (h : QI lo w L Z i v) (k : Stay lo w w') : QI lo w' L Z i v := by
  obtain ⟨a, c, h1, h2⟩ := h
  exact ⟨a, c, h1, h2.stay k⟩
theorem row2_of {lo : Nat} {w : World} {C n : Nat} {L : Nat → Nat} {Z : Nat → List Int} (h : FillQ 22 (.slice none 0 0) w C n n (QI (C + 1) w L Z)) (hl : lo ≤ C) : Row2 lo w (some ⟨C, 0, none⟩) n L Z := by
  intro hn
  refine ⟨C, 0, rfl, hl, fun j hj => ?_⟩
  obtain ⟨v, hc, a, c, rfl, hr⟩ := h.at hj
  exact ⟨a, c, hc, hr.lo (by omega)⟩
theorem rep3_of {w : World} {B n : Nat} {N : Nat → Nat} {L : Nat → Nat → Nat} {Z : Nat → Nat → List Int} (h : FillQ 56 (.slice none 0 0) w B n n (QO (B + 1) w N L Z)) : Rep3 B w (some ⟨B, 0, none⟩) n N L Z := by
  intro hn
  refine ⟨B, 0, rfl, Nat.le_refl _, fun j hj => ?_⟩
  obtain ⟨v, hc, a, c, rfl, hr⟩ := h.at hj
  exact ⟨a, c, hc, hr.lo (by omega)⟩

set_option maxHeartbeats 4000000 in
theorem clone3_some (x : Addr) (n c : Nat) (N : Nat → Nat) (L : Nat → Nat → Nat) (Z : Nat → Nat → List Int) (w : World) (hn : n ≤ 2097152) (hN : ∀ i, i < n → N i ≤ 2097152) (hL : ∀ i, i < n → ∀ j, j < N i → L i j ≤ 2097152) (r : Rep3 0 w (some x) n N L Z) :
    Calls Tryf.prog 31 #[.slice (some x) n c] w fun e w' => e = .returned (.slice (some ⟨w.heap.size, 0, none⟩) n n) ∧ Rep3 w.heap.size w' (some ⟨w.heap.size, 0, none⟩) n N L Z ∧ Below w.heap.size w w' := by
  obtain ⟨i0, hi, hz0, hz1, hz2⟩ := info_parts Tryf.info56
  obtain ⟨i2, hi2, hz02, hz12, hz22⟩ := info_parts Tryf.info22
  have hnl := fun w => Lib.run_eql_slice_nil (P := Tryf.prog) w 54 56 (some x) n c 0 0 Tryf.underlying54
  have hnn := fun (w : World) (a : Option Addr) (m c : Nat) => run_neq_slice_nil_any (P := Tryf.prog) w 56 22 a m c 0 0 Tryf.underlying56
  go_enter Tryf.func31, Tryf.ntmps31
  go_wp2_with (at_make; refine wpList_make_full _ rfl _ _ 54 rfl w.heap.size 56 i0 _ 1 Tryf.underlying54 hi hz0 hz1 .i64 .i64 _ _ n rfl rfl rfl rfl (by rw [hz2]; omega) (by unfold maxLen; omega) (Nat.le_refl _) ?_; intro w1 hown1 hg1)
  have hb1 : Below w.heap.size w w1 := (Below.refl _ w).grown hg1 (Nat.le_refl _) (fun k h => by cases h)
  obtain ⟨B, hB⟩ : ∃ B, B = w.heap.size := ⟨_, rfl⟩
  have hf1 : FillQ 56 (.slice none 0 0) w1 w.heap.size n 0 (QO (B + 1) w1 N L Z) := FillQ.start rfl hown1
  rw [← hB] at hb1 hf1 ⊢
  have HB : Hid (B = w.heap.size) := hB
  have HR : Hid _ := r
  have HN : Hid _ := hN
  have HL : Hid _ := hL
  clear hB hg1 hown1 hi hz0 hz1 hz2 hnl r hN hL
  go_loopg [4] (n + 1) (fun kx i wr => ∃ k : Nat, k ≤ n ∧ n - k < kx ∧ i = .int .i64 k ∧ FillQ 56 (.slice none 0 0) wr B n k (QO (B + 1) wr N L Z) ∧ Below B w wr)
  case atStart => exact ⟨0, Nat.zero_le _, by omega, rfl, hf1, hb1⟩
  case round =>
    rename World => wo
    obtain ⟨k, hk, hkx, rfl, hf, hb⟩ := hrel
    clear hf1 hb1
    by_cases hlt : k < n
    · obtain ⟨b, off, hx, _, hc⟩ := HR.out (by omega)
      obtain rfl : x = ⟨b, off, none⟩ := by simpa using hx
      obtain ⟨ai, ci, g, hrow⟩ := hc k hlt
      have hbl : b < B := by rw [HB.out]; exact World.block_lt_of_cell? _ _ g
      have g0 : wo.cell? ⟨b, off + k, none⟩ = some (.slice ai (N k) ci) := (hb.cell (p := ⟨b, off + k, none⟩) hbl).trans g
      have hlt2 : (k : Int) < (n : Int) := by omega
      have HF : Hid _ := hf
      have HBL : Hid _ := hb
      have HRW : Hid _ := hrow
      have hNk := HN.out k hlt
      have HLk : Hid _ := HL.out k hlt
      clear hc hx g hf hb hrow
      cases ai with
      | none =>
        have h0 : N k = 0 := by
          rcases Nat.eq_zero_or_pos (N k) with h | h
          · exact h
          · obtain ⟨_, _, hx, _⟩ := HRW.out h; cases hx
        go_wp2_with fail
        go_roundg (n - k)
        case rel => exact ⟨k + 1, by omega, by omega, by go_num, FillQ.skip HF.out hlt ⟨none, 0, by rw [h0], fun h => by omega⟩, HBL.out⟩
        case measure => omega
      | some y =>
        obtain ⟨M, hM⟩ : ∃ M, M = N k := ⟨_, rfl⟩
        rw [← hM] at g0 hNk
        have HM : Hid _ := hM
        clear hM
        go_wp2_with (at_make; refine wpList_make_full _ rfl _ _ 56 rfl wo.heap.size 22 i2 _ 1 Tryf.underlying56 hi2 hz02 hz12 .i64 .i64 _ _ M rfl rfl rfl rfl (by rw [hz22]; omega) (by unfold maxLen; omega) (Nat.le_refl _) ?_; intro w2 hown2 hg2)
        have hb2 : Below wo.heap.size wo w2 := (Below.refl _ wo).grown hg2 (Nat.le_refl _) (fun k h => by cases h)
        obtain ⟨C, hC⟩ : ∃ C, C = wo.heap.size := ⟨_, rfl⟩
        have hf2 : FillQ 22 (.slice none 0 0) w2 wo.heap.size M 0 (QI (C + 1) w2 (L k) (Z k)) := FillQ.start rfl hown2
        rw [← hC] at hb2 hf2 ⊢
        have HC : Hid (C = wo.heap.size) := hC
        have hBC : B < C := by rw [hC]; exact FillQ.lt HF.out
        clear hC hg2 hown2
        go_loopg [6] (M + 1) (fun kx i wi => ∃ m : Nat, m ≤ M ∧ M - m < kx ∧ i = .int .i64 m ∧ FillQ 22 (.slice none 0 0) wi C M m (QI (C + 1) wi (L k) (Z k)) ∧ Below C wo wi)
        case atStart => exact ⟨0, Nat.zero_le _, by omega, rfl, hf2, hb2⟩
        case round =>
          rename World => wi
          obtain ⟨m, hm, hmx, rfl, hfi, hbi⟩ := hrel
          clear hf2 hb2
          have g1 : wi.cell? ⟨b, off + k, none⟩ = some (.slice (some y) M ci) := (hbi.cell (p := ⟨b, off + k, none⟩) (show b < C by omega)).trans g0
          have hst : Stay 0 w wi := (Stay.of_below (HB.out ▸ HBL.out)).trans (Stay.of_below (HC.out ▸ hbi))
          by_cases hmt : m < M
          · obtain ⟨bi, oi, hy, _, hcj⟩ := (Row2.stay HRW.out hst) (by rw [← HM.out]; omega)
            obtain rfl : y = ⟨bi, oi, none⟩ := by simpa using hy
            obtain ⟨aj, cj, g2, hbr⟩ := hcj m (by rw [← HM.out]; exact hmt)
            have hlj := HLk.out m (by rw [← HM.out]; exact hmt)
            have hmt2 : (m : Int) < (M : Int) := by omega
            have hCl := clone_new aj (L k m) cj (Z k m) wi hlj hbr.1
            have HFI : Hid _ := hfi
            have HBI : Hid _ := hbi
            clear hfi hbi hy hcj hbr hst
            go_wp2_with fail
            refine hCl.mono ?_
            rintro e w3 ⟨a', c', rfl, hr3, hb3⟩
            have hf3 : FillQ 22 (.slice none 0 0) w3 C M m (QI (C + 1) w3 (L k) (Z k)) := FillQ.mono HFI.out (hb3.block C (FillQ.lt HFI.out)) (fun i v _ q => q.stay (Stay.of_below hb3))
            obtain ⟨v, hv⟩ := hf3.cell hmt
            have hfr := hf3.free m
            have HST : Hid (FillQ 22 (.slice none 0 0) (w3.setCell ⟨C, m, none⟩ (.slice a' (L k m) c')) C M (m + 1) (QI (C + 1) (w3.setCell ⟨C, m, none⟩ (.slice a' (L k m) c')) (L k) (Z k))) :=
              hf3.step hmt _ ⟨a', c', rfl, (hr3.lo (FillQ.lt HFI.out)).stay (Stay.setCell _ (by omega) _ _)⟩ (fun i v _ q => q.stay (Stay.setCell _ (by omega) _ _))
            have HBS : Hid (Below C wo (w3.setCell ⟨C, m, none⟩ (.slice a' (L k m) c'))) := (Below.trans HBI.out (hb3.mono (Nat.le_of_lt (FillQ.lt HFI.out)))).setCell (Nat.le_refl _) _
            clear hf3 hr3 hb3 hCl
            go_wp2_with fail
            go_roundg (M - m)
            case rel => exact ⟨m + 1, by omega, by omega, by go_num, HST.out, HBS.out⟩
            case measure => omega
          · obtain rfl : m = M := by omega
            have hBo := (hbi.block B (by omega))
            have hf4 : FillQ 56 (.slice none 0 0) wi B n k (QO (B + 1) wi N L Z) := FillQ.mono HF.out hBo (fun i v _ q => q.stay (Stay.of_below (HC.out ▸ hbi)))
            obtain ⟨v, hv⟩ := hf4.cell hlt
            have hfr := hf4.free k
            have hr2 := row2_of (lo := B + 1) hfi (by omega)
            have HST : Hid (FillQ 56 (.slice none 0 0) (wi.setCell ⟨B, k, none⟩ (.slice (some ⟨C, 0, none⟩) m m)) B n (k + 1) (QO (B + 1) (wi.setCell ⟨B, k, none⟩ (.slice (some ⟨C, 0, none⟩) m m)) N L Z)) :=
              hf4.step hlt _ ⟨_, m, by rw [HM.out], HM.out ▸ hr2.stay (Stay.setCell _ (by omega) _ _)⟩ (fun i v _ q => q.stay (Stay.setCell _ (by omega) _ _))
            have HBS : Hid (Below B w (wi.setCell ⟨B, k, none⟩ (.slice (some ⟨C, 0, none⟩) m m))) := (Below.trans HBL.out (hbi.mono (by omega))).setCell (Nat.le_refl _) _
            clear hf4 hr2 hfi hbi hBo hst
            go_wp2_with fail
            go_roundg (n - k)
            case rel => exact ⟨k + 1, by omega, by omega, by go_num, HST.out, HBS.out⟩
            case measure => omega
    · obtain rfl : k = n := by omega
      go_wp2_with fail
      go_ret
      have e := HB.out
      subst e
      exact ⟨rfl, rep3_of hf, hb⟩
set_option maxHeartbeats 1000000 in
theorem clone3_none (n c : Nat) (w : World) :
    Calls Tryf.prog 31 #[.slice none n c] w fun e w' => e = .returned (.slice none 0 0) ∧ w = w' := by
  have hnl := fun w => Lib.run_eql_slice_nil (P := Tryf.prog) w 54 56 none n c 0 0 Tryf.underlying54
  go_enter Tryf.func31, Tryf.ntmps31
  go_wp2
  go_ret
  exact ⟨rfl, rfl⟩
theorem clone3 (a : Option Addr) (n c : Nat) (N : Nat → Nat) (L : Nat → Nat → Nat) (Z : Nat → Nat → List Int) (w : World) (hn : n ≤ 2097152) (hN : ∀ i, i < n → N i ≤ 2097152) (hL : ∀ i, i < n → ∀ j, j < N i → L i j ≤ 2097152) (r : Rep3 0 w a n N L Z) :
    Calls Tryf.prog 31 #[.slice a n c] w fun e w' => ∃ a' c', e = .returned (.slice a' n c') ∧ Rep3 0 w' a' n N L Z ∧ Below w.heap.size w w' := by
  cases a with
  | none =>
    have h0 : n = 0 := by
      rcases Nat.eq_zero_or_pos n with h | h
      · exact h
      · obtain ⟨b, off, hx, _⟩ := r h; cases hx
    subst h0
    refine (clone3_none 0 c w).mono ?_
    rintro e w' ⟨rfl, rfl⟩
    exact ⟨none, 0, rfl, r, Below.refl _ _⟩
  | some x =>
    refine (clone3_some x n c N L Z w hn hN hL r).mono ?_
    rintro e w' ⟨rfl, hr, hb⟩
    exact ⟨_, n, rfl, hr.lo (Nat.zero_le _), hb⟩
end Go.Proofs.Qxb6604610aFmt
