/-
  zzBytes_FnParseStoreAnsRoundTrip (28).
-/
import Derived.Test.Qxb6604610aFmtDeep7
namespace Go.Proofs.Qxb6604610aFmt
open Go.RowKit Go.Extern.Stop Go.Stop Go.Extern

set_option maxRecDepth 20000 in
set_option maxHeartbeats 4000000 in
theorem bytes28 (a0 a1 a2 a4 : Option Addr) (n0 c0 n1 c1 n2 c2 n4 c4 : Nat) (z : Int) (N : Nat → Nat) (L : Nat → Nat → Nat) (Z : Nat → Nat → List Int) (w : World) (h0 : n0 ≤ maxLen) (h1 : n1 ≤ maxLen) (h2 : n2 ≤ maxLen) (h4 : n4 ≤ maxLen)
    (hN : ∀ i, i < n2 → N i ≤ maxLen) (hL : ∀ i, i < n2 → ∀ j, j < N i → L i j ≤ maxLen) (r : Rep3 0 w a2 n2 N L Z) :
    Calls Tryf.prog 28 #[.slice a0 n0 c0, .slice a1 n1 c1, .slice a2 n2 c2, .int .i64 z, .slice a4 n4 c4] w fun e w' => ∃ b, e = .returned (.bool b) ∧ w = w' := by
  unfold maxLen at h0 h1 h2 h4
  have HN : Hid _ := hN
  have HL : Hid _ := hL
  have HR : Hid _ := r
  clear hN hL r
  go_enter Tryf.func28, Tryf.ntmps28
  go_wp2_with fail
  all_goals try (go_ret; exact ⟨_, rfl, rfl⟩)
  go_loopg [12, 11] (n2 + 1) (fun kx i t wr => ∃ k u : Nat, k ≤ n2 ∧ n2 - k < kx ∧ i = .int .i64 k ∧ t = .int .i64 u ∧ u ≤ 1048576 ∧ w = wr)
  case atStart => exact ⟨0, n0 + n1 + n2, Nat.zero_le _, by omega, rfl, by go_num, by omega, rfl⟩
  case round =>
    obtain ⟨k, u, hk, hkx, rfl, rfl, hu, rfl⟩ := hrel
    by_cases hlt : k < n2
    · obtain ⟨b, off, rfl, _, hc⟩ := HR.out (by omega)
      obtain ⟨ai, ci, g, hrow⟩ := hc k hlt
      have hlt2 : (k : Int) < (n2 : Int) := by omega
      have hNk := HN.out k hlt
      have HLk : Hid _ := HL.out k hlt
      have HRW : Hid _ := hrow
      unfold maxLen at hNk
      obtain ⟨M, hM⟩ : ∃ M, M = N k := ⟨_, rfl⟩
      rw [← hM] at g hNk
      have HM : Hid _ := hM
      clear hc hrow hM
      go_wp2_with fail
      all_goals try (go_ret; exact ⟨_, rfl, rfl⟩)
      go_loopg [13, 11] (M + 1) (fun kx i t wr => ∃ m u : Nat, m ≤ M ∧ M - m < kx ∧ i = .int .i64 m ∧ t = .int .i64 u ∧ u ≤ 1048576 ∧ w = wr)
      case atStart => exact ⟨0, u + M, Nat.zero_le _, by omega, rfl, by go_num, by omega, rfl⟩
      case round =>
        obtain ⟨m, v, hm, hmx, rfl, rfl, hv, rfl⟩ := hrel
        by_cases hmt : m < M
        · obtain ⟨bi, oi, rfl, _, hcj⟩ := HRW.out (by rw [← HM.out]; omega)
          obtain ⟨aj, cj, g2, hbr⟩ := hcj m (by rw [← HM.out]; exact hmt)
          have hlj := HLk.out m (by rw [← HM.out]; exact hmt)
          have hmt2 : (m : Int) < (M : Int) := by omega
          unfold maxLen at hlj
          clear hcj hbr
          go_wp2_with fail
          all_goals try (go_ret; exact ⟨_, rfl, rfl⟩)
          go_roundg (M - m)
          case rel => exact ⟨m + 1, v + L k m, by omega, by omega, by go_num, by go_num, by omega, rfl⟩
          case measure => omega
        · obtain rfl : m = M := by omega
          go_wp2_with fail
          go_roundg (n2 - k)
          case rel => exact ⟨k + 1, v, by omega, by omega, by go_num, rfl, hv, rfl⟩
          case measure => omega
    · obtain rfl : k = n2 := by omega
      go_wp2_with fail
      all_goals (go_ret; exact ⟨_, rfl, rfl⟩)
end Go.Proofs.Qxb6604610aFmt
