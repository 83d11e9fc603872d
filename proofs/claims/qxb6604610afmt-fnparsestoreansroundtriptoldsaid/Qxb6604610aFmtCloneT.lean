/-
  cloneU32_b1 (29), cloneU64_b1 (30).
-/
import Derived.Test.Qxb6604610aFmtRowsT
namespace Go.Proofs.Qxb6604610aFmt
open Go.RowKit Go.Extern.Stop Go.Stop Go.Extern

theorem Tryf.info40 : (Tryf.prog.info? 40).map (fun i => (i.zero, i.size, i.bytes)) = some (some (.int .u32 0), 1, 4) := by kernel_rfl
set_option maxHeartbeats 1000000 in
theorem clone32_some (x : Addr) (n c : Nat) (xs : Nat → Nat) (w : World) (hn : n ≤ 2097152) (r : VRow w (some x) n (fun i => .int .u32 (xs i))) :
    Calls Tryf.prog 29 #[.slice (some x) n c] w fun e w' => e = .returned (.slice (some ⟨w.heap.size, 0, none⟩) n n) ∧ VRow w' (some ⟨w.heap.size, 0, none⟩) n (fun i => .int .u32 (xs i)) ∧ w.heap.size < w'.heap.size ∧ Below w.heap.size w w' := by
  obtain ⟨i0, hi, hz0, hz1, hz2⟩ := info_parts Tryf.info40
  have hnl := fun w => Lib.run_eql_slice_nil (P := Tryf.prog) w 52 40 (some x) n c 0 0 Tryf.underlying52
  go_enter Tryf.func29, Tryf.ntmps29
  go_wp2_with (at_make; refine wpList_make_full _ rfl _ _ 52 rfl w.heap.size 40 i0 _ 1 Tryf.underlying52 hi hz0 hz1 .i64 .i64 _ _ n rfl rfl rfl rfl (by rw [hz2]; omega) (by unfold maxLen; omega) (Nat.le_refl _) ?_; intro w1 hown1 hg1)
  have hb1 : Below w.heap.size w w1 := (Below.refl _ w).grown hg1 (Nat.le_refl _) (fun k h => by cases h)
  have hf1 : FillT 40 w1 w.heap.size n 0 (fun i => .int .u32 (xs i)) := FillT.start hown1
  obtain ⟨B, hB⟩ : ∃ B, B = w.heap.size := ⟨_, rfl⟩
  rw [← hB] at hb1 hf1 ⊢
  have HB : Hid (B = w.heap.size) := hB
  clear hB hg1 hown1
  go_loopw [4] (fun i wr => ∃ k : Nat, k ≤ n ∧ i = .int .i64 k ∧ FillT 40 wr B n k (fun i => .int .u32 (xs i)) ∧ Below B w wr) (fun i _ => n + 1 - (intOf i).toNat)
  case atStart => exact ⟨0, Nat.zero_le _, rfl, hf1, hb1⟩
  case round =>
    obtain ⟨k, hk, rfl, hf, hb⟩ := hrel
    clear hf1 hb1
    by_cases hlt : k < n
    · obtain ⟨b, off, hx, hc⟩ := r (by omega)
      obtain rfl : x = ⟨b, off, none⟩ := by simpa using hx
      have g := hc k hlt
      have hbl : b < B := by rw [HB.out]; exact World.block_lt_of_cell? _ _ g
      have g0 : wr.cell? ⟨b, off + k, none⟩ = some (.int .u32 (xs k)) := (hb.cell (p := ⟨b, off + k, none⟩) hbl).trans g
      obtain ⟨v, hv⟩ := hf.cell hlt
      have hfr := hf.free k
      have hst : FillT 40 _ B n (k + 1) (fun i => .int .u32 (xs i)) := hf.step hlt
      have hbs : Below B w (wr.setCell ⟨B, k, none⟩ (.int .u32 (xs k))) := hb.setCell (Nat.le_refl _) _
      have HST : Hid _ := hst
      have HBS : Hid _ := hbs
      have hi2 : (k : Int) < (n : Int) := by omega
      clear hc g hf hb hx hst hbs r
      go_wp2
      go_roundw
      case rel => exact ⟨k + 1, by omega, by go_num, HST.out, HBS.out⟩
      case measure => simp [intOf]; omega
    · obtain rfl : k = n := by omega
      go_wp2
      go_ret
      have e := HB.out
      have hr := hf.row
      have hl := hf.lt
      subst e
      exact ⟨rfl, hr, hl, hb⟩
set_option maxHeartbeats 1000000 in
theorem clone32_none (n c : Nat) (w : World) :
    Calls Tryf.prog 29 #[.slice none n c] w fun e w' => e = .returned (.slice none 0 0) ∧ w = w' := by
  have hnl := fun w => Lib.run_eql_slice_nil (P := Tryf.prog) w 52 40 none n c 0 0 Tryf.underlying52
  go_enter Tryf.func29, Tryf.ntmps29
  go_wp2
  go_ret
  exact ⟨rfl, rfl⟩

theorem Tryf.info42 : (Tryf.prog.info? 42).map (fun i => (i.zero, i.size, i.bytes)) = some (some (.int .u64 0), 1, 8) := by kernel_rfl
set_option maxHeartbeats 1000000 in
theorem clone64_some (x : Addr) (n c : Nat) (xs : Nat → Nat) (w : World) (hn : n ≤ 2097152) (r : VRow w (some x) n (fun i => .int .u64 (xs i))) :
    Calls Tryf.prog 30 #[.slice (some x) n c] w fun e w' => e = .returned (.slice (some ⟨w.heap.size, 0, none⟩) n n) ∧ VRow w' (some ⟨w.heap.size, 0, none⟩) n (fun i => .int .u64 (xs i)) ∧ w.heap.size < w'.heap.size ∧ Below w.heap.size w w' := by
  obtain ⟨i0, hi, hz0, hz1, hz2⟩ := info_parts Tryf.info42
  have hnl := fun w => Lib.run_eql_slice_nil (P := Tryf.prog) w 53 42 (some x) n c 0 0 Tryf.underlying53
  go_enter Tryf.func30, Tryf.ntmps30
  go_wp2_with (at_make; refine wpList_make_full _ rfl _ _ 53 rfl w.heap.size 42 i0 _ 1 Tryf.underlying53 hi hz0 hz1 .i64 .i64 _ _ n rfl rfl rfl rfl (by rw [hz2]; omega) (by unfold maxLen; omega) (Nat.le_refl _) ?_; intro w1 hown1 hg1)
  have hb1 : Below w.heap.size w w1 := (Below.refl _ w).grown hg1 (Nat.le_refl _) (fun k h => by cases h)
  have hf1 : FillT 42 w1 w.heap.size n 0 (fun i => .int .u64 (xs i)) := FillT.start hown1
  obtain ⟨B, hB⟩ : ∃ B, B = w.heap.size := ⟨_, rfl⟩
  rw [← hB] at hb1 hf1 ⊢
  have HB : Hid (B = w.heap.size) := hB
  clear hB hg1 hown1
  go_loopw [4] (fun i wr => ∃ k : Nat, k ≤ n ∧ i = .int .i64 k ∧ FillT 42 wr B n k (fun i => .int .u64 (xs i)) ∧ Below B w wr) (fun i _ => n + 1 - (intOf i).toNat)
  case atStart => exact ⟨0, Nat.zero_le _, rfl, hf1, hb1⟩
  case round =>
    obtain ⟨k, hk, rfl, hf, hb⟩ := hrel
    clear hf1 hb1
    by_cases hlt : k < n
    · obtain ⟨b, off, hx, hc⟩ := r (by omega)
      obtain rfl : x = ⟨b, off, none⟩ := by simpa using hx
      have g := hc k hlt
      have hbl : b < B := by rw [HB.out]; exact World.block_lt_of_cell? _ _ g
      have g0 : wr.cell? ⟨b, off + k, none⟩ = some (.int .u64 (xs k)) := (hb.cell (p := ⟨b, off + k, none⟩) hbl).trans g
      obtain ⟨v, hv⟩ := hf.cell hlt
      have hfr := hf.free k
      have hst : FillT 42 _ B n (k + 1) (fun i => .int .u64 (xs i)) := hf.step hlt
      have hbs : Below B w (wr.setCell ⟨B, k, none⟩ (.int .u64 (xs k))) := hb.setCell (Nat.le_refl _) _
      have HST : Hid _ := hst
      have HBS : Hid _ := hbs
      have hi2 : (k : Int) < (n : Int) := by omega
      clear hc g hf hb hx hst hbs r
      go_wp2
      go_roundw
      case rel => exact ⟨k + 1, by omega, by go_num, HST.out, HBS.out⟩
      case measure => simp [intOf]; omega
    · obtain rfl : k = n := by omega
      go_wp2
      go_ret
      have e := HB.out
      have hr := hf.row
      have hl := hf.lt
      subst e
      exact ⟨rfl, hr, hl, hb⟩
set_option maxHeartbeats 1000000 in
theorem clone64_none (n c : Nat) (w : World) :
    Calls Tryf.prog 30 #[.slice none n c] w fun e w' => e = .returned (.slice none 0 0) ∧ w = w' := by
  have hnl := fun w => Lib.run_eql_slice_nil (P := Tryf.prog) w 53 42 none n c 0 0 Tryf.underlying53
  go_enter Tryf.func30, Tryf.ntmps30
  go_wp2
  go_ret
  exact ⟨rfl, rfl⟩
theorem clone32 (a : Option Addr) (n c : Nat) (xs : Nat → Nat) (w : World) (hn : n ≤ 2097152) (r : VRow w a n (fun i => .int .u32 (xs i))) :
    Calls Tryf.prog 29 #[.slice a n c] w fun e w' => ∃ a' c', e = .returned (.slice a' n c') ∧ VRow w' a' n (fun i => .int .u32 (xs i)) ∧ Below w.heap.size w w' := by
  cases a with
  | none =>
    have h0 : n = 0 := by
      rcases Nat.eq_zero_or_pos n with h | h
      · exact h
      · obtain ⟨b, off, hx, _⟩ := r h; cases hx
    subst h0
    refine (clone32_none 0 c w).mono ?_
    rintro e w' ⟨rfl, rfl⟩
    exact ⟨none, 0, rfl, r, Below.refl _ _⟩
  | some x =>
    refine (clone32_some x n c xs w hn r).mono ?_
    rintro e w' ⟨rfl, hr, _, hb⟩
    exact ⟨_, n, rfl, hr, hb⟩
theorem clone64 (a : Option Addr) (n c : Nat) (xs : Nat → Nat) (w : World) (hn : n ≤ 2097152) (r : VRow w a n (fun i => .int .u64 (xs i))) :
    Calls Tryf.prog 30 #[.slice a n c] w fun e w' => ∃ a' c', e = .returned (.slice a' n c') ∧ VRow w' a' n (fun i => .int .u64 (xs i)) ∧ Below w.heap.size w w' := by
  cases a with
  | none =>
    have h0 : n = 0 := by
      rcases Nat.eq_zero_or_pos n with h | h
      · exact h
      · obtain ⟨b, off, hx, _⟩ := r h; cases hx
    subst h0
    refine (clone64_none 0 c w).mono ?_
    rintro e w' ⟨rfl, rfl⟩
    exact ⟨none, 0, rfl, r, Below.refl _ _⟩
  | some x =>
    refine (clone64_some x n c xs w hn r).mono ?_
    rintro e w' ⟨rfl, hr, _, hb⟩
    exact ⟨_, n, rfl, hr, hb⟩
end Go.Proofs.Qxb6604610aFmt
