/-
  FnParseStoreAnsRoundTrip (7) where a length is too great.
-/
import Derived.Test.Qxb6604610aFmtBytes7
namespace Go.Proofs.Qxb6604610aFmt
open Go.RowKit Go.Extern.Stop Go.Stop Go.Extern

set_option maxRecDepth 20000 in
set_option maxHeartbeats 4000000 in
theorem law7_big (a0 a1 a2 a4 : Option Addr) (n0 c0 n1 c1 n2 c2 n4 c4 : Nat) (z : Int) (N : Nat → Nat) (L : Nat → Nat → Nat) (Z : Nat → Nat → List Int) (w : World) (h0 : n0 ≤ maxLen) (h1 : n1 ≤ maxLen) (h2 : n2 ≤ maxLen) (h4 : n4 ≤ maxLen)
    (hN : ∀ i, i < n2 → N i ≤ maxLen) (hL : ∀ i, i < n2 → ∀ j, j < N i → L i j ≤ maxLen) (r : Rep3 0 w a2 n2 N L Z) (hbig : ¬ (n0 ≤ 65536 ∧ n1 ≤ 65536 ∧ n2 ≤ 65536 ∧ n4 ≤ 65536)) :
    Calls Tryf.prog 7 #[.slice a0 n0 c0, .slice a1 n1 c1, .slice a2 n2 c2, .int .i64 z, .slice a4 n4 c4] w fun e w' => e = .returned (.bool true) ∧ Below w.heap.size w w' := by
  have hB := bytes28 a0 a1 a2 a4 n0 c0 n1 c1 n2 c2 n4 c4 z N L Z w h0 h1 h2 h4 hN hL r
  unfold maxLen at h0 h1 h2 h4
  have HX : Hid _ := hbig
  clear hN hL r hbig
  go_enter Tryf.func7, Tryf.ntmps7
  go_wp2_with fail
  refine hB.mono ?_
  rintro e w' ⟨b, rfl, rfl⟩
  clear hB
  cases b with
  | false =>
    go_wp2_with fail
    go_ret
    exact ⟨rfl, Below.refl _ _⟩
  | true =>
    by_cases p0 : (65536 : Int) < (n0 : Int)
    · go_wp2_with fail
      go_ret
      exact ⟨rfl, Below.refl _ _⟩
    by_cases p1 : (65536 : Int) < (n1 : Int)
    · go_wp2_with fail
      go_ret
      exact ⟨rfl, Below.refl _ _⟩
    by_cases p2 : (65536 : Int) < (n2 : Int)
    · go_wp2_with fail
      go_ret
      exact ⟨rfl, Below.refl _ _⟩
    have p4 : (65536 : Int) < (n4 : Int) := by
      rcases Nat.lt_or_ge 65536 n4 with h | h
      · omega
      · exact absurd ⟨by omega, by omega, by omega, h⟩ HX.out
    go_wp2_with fail
    go_ret
    exact ⟨rfl, Below.refl _ _⟩
end Go.Proofs.Qxb6604610aFmt
