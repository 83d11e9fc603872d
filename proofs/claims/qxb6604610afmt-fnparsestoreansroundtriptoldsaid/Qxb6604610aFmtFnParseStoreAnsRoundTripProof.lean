/-
  The told card of FnParseStoreAnsRoundTrip, over the walk of Qxb6604610aFmtLaw7.
-/
import Derived.Test.Qxb6604610aFmtCards
import Derived.Test.Qxb6604610aFmtLaw7
import Derived.Test.Qxb6604610aFmtBig7
import Derived.Test.Qxb6604610aFmtOpen7
import Derived.ProofKit
import Derived.OpenShut
import Derived.ChangeOld
import Derived.Below
import Derived.Stop.JoinedAt
import Derived.Stop.JoinedTold
import Derived.SevenToldRow
namespace Go.Proofs.Qxb6604610aFmt.fnParseStoreAnsRoundTrip
open Go.ChangeShapes Go.WideShapes Go.ChangeAt Go.RowKit Go.Kit
open Go.Extern.Stop Go.Stop Go.Extern
set_option linter.unusedVariables false

theorem own : ownKnob Tryf.prog.godebug = none := by kernel_rfl
theorem laidOut : laidOutB Tryf.prog = true := by kernel_rfl
theorem laidOutP : laidOutB Tryf.pinned.checked.prog = true := by kernel_rfl
theorem stopsP : Tryf.pinned.checked.prog.stops = ["fmt.Sprintf"] := by kernel_rfl
theorem knobsP : Tryf.pinned.checked.prog.stopKnobs = [] := by kernel_rfl
theorem quietP (os : Os) : Stop.quiet Tryf.pinned.checked.prog os := by
  intro k hk
  rw [knobsP] at hk
  cases hk

theorem walk (a0 a1 a2 a4 : Option Addr) (n0 c0 n1 c1 n2 c2 n4 c4 : Nat) (z : Int) (K G N : Nat → Nat) (L : Nat → Nat → Nat) (Z : Nat → Nat → List Int) (T : List Int) (w : World) (h0 : n0 ≤ maxLen) (h1 : n1 ≤ maxLen) (h2 : n2 ≤ maxLen) (h4 : n4 ≤ maxLen) (hz : z ≤ 9223372036854775807)
    (hN : ∀ i, i < n2 → N i ≤ maxLen) (hL : ∀ i, i < n2 → ∀ j, j < N i → L i j ≤ maxLen) (hK : ∀ i, i < n0 → K i < 4294967296) (hG : ∀ i, i < n1 → G i < 18446744073709551616)
    (r0 : VRow w a0 n0 (fun i => .int .u32 (K i))) (r1 : VRow w a1 n1 (fun i => .int .u64 (G i))) (r2 : Rep3 0 w a2 n2 N L Z) (rZ : ∀ i, i < n2 → ∀ j, j < N i → Bytes (Z i j)) (r4 : BRow w a4 n4 T) (hT : Bytes T) :
    Calls Tryf.prog 7 #[.slice a0 n0 c0, .slice a1 n1 c1, .slice a2 n2 c2, .int .i64 z, .slice a4 n4 c4] w fun e w' => e = .returned (.bool true) ∧ Below w.heap.size w w' := by
  by_cases hbig : n0 ≤ 65536 ∧ n1 ≤ 65536 ∧ n2 ≤ 65536 ∧ n4 ≤ 65536
  · exact law7_in a0 a1 a2 a4 n0 c0 n1 c1 n2 c2 n4 c4 z K G N L Z T w hbig.1 hbig.2.1 hbig.2.2.1 hbig.2.2.2 hz hN hL hK hG r0 r1 r2 rZ r4 hT
  · exact law7_big a0 a1 a2 a4 n0 c0 n1 c1 n2 c2 n4 c4 z N L Z w h0 h1 h2 h4 hN hL r2 hbig

set_option maxRecDepth 100000 in
theorem lifted (os : Os) (started : os.Started) (H : Type) (enc : TypeId × Value → H) :
    ReturnsInTold none {} Tryf.checked os 7 .any Input.okWide ((OpenSpec.ofChange Rows.fnParseStoreAnsRoundTripSpec).preRow enc Tryf.prog Tryf.f7 [] false []) (fun F => ((OpenSpec.ofChange Rows.fnParseStoreAnsRoundTripSpec).at F).post enc Tryf.prog Tryf.f7 false true false false) (aloneAtReturn Tryf.prog) nothingAlways := by
  refine returnsInTold_of_row (C := Tryf.checked) (s := OpenSpec.ofChange Rows.fnParseStoreAnsRoundTripSpec) (by kernel_rfl) own started (by kernel_rfl) Tryf.func7
    (OpenSpec.witness_stopped (enc := enc) (C := Tryf.checked) false ⟨#[], #[.slice none 0 0, .slice none 0 0, .slice none 0 0, .int .i64 0, .slice none 0 0], []⟩ 8 (by kernel_rfl) (by kernel_rfl) (by kernel_rfl) (by kernel_rfl)) ?_
  intro F W base args ds gs before _ hF hval0 hW _ _ hsz _ _
  have hval : ∀ (j : Nat) t v, Tryf.f7.params[j]? = some t → args[j]? = some v → Value.okWide Tryf.prog W .any base t v := hval0
  have hW' := hW
  obtain ⟨p, q, hA0, hV, rfl, hfz, hnd⟩ := hW
  have hA : DataW.TrodAll enc Tryf.prog W 0 (fun _ => true) true Tryf.f7.params.toList args.toList ds p := hA0
  rw [Tryf.params7] at hA hval
  obtain ⟨v0, vs0, d0, ds0, p0, q0, hargs, rfl, rfl, h0, r0⟩ := trodAll_cons hA
  obtain ⟨v1, vs1, d1, ds1, p1, q1, hargs1, rfl, rfl, h1, r1⟩ := trodAll_cons r0
  obtain ⟨v2, vs2, d2, ds2, p2, q2, hargs2, rfl, rfl, h2, r2⟩ := trodAll_cons r1
  obtain ⟨v3, vs3, d3, ds3, p3, q3, hargs3, rfl, rfl, h3, r3⟩ := trodAll_cons r2
  obtain ⟨v4, vs4, d4, ds4, p4, q4, hargs4, rfl, rfl, h4, r4⟩ := trodAll_cons r3
  obtain ⟨rfl, rfl, rfl⟩ := trodAll_nil r4
  obtain rfl : args = #[v0, v1, v2, v3, v4] := by cases args; simp_all
  obtain ⟨rfl, rfl⟩ := trodVars_none hV
  obtain ⟨a0, n0, c0, rfl⟩ := okWide_slice Tryf.underlying52 (hval 0 52 v0 rfl rfl)
  obtain ⟨a1, n1, c1, rfl⟩ := okWide_slice Tryf.underlying53 (hval 1 53 v1 rfl rfl)
  obtain ⟨a2, n2, c2, rfl⟩ := okWide_slice Tryf.underlying54 (hval 2 54 v2 rfl rfl)
  obtain ⟨a4, n4, c4, rfl⟩ := okWide_slice Tryf.underlying22 (hval 4 22 v4 rfl rfl)
  have k0 := h0
  have k1 := h1
  have k2 := h2
  have k3 := h3
  have k4 := h4
  have lt0 : ∀ x ∈ p0, x.block < W.heap.size := by obtain ⟨m, hm⟩ := k0; exact DataW.trod_lt m _ _ _ hm
  have lt1 : ∀ x ∈ p1, x.block < W.heap.size := by obtain ⟨m, hm⟩ := k1; exact DataW.trod_lt m _ _ _ hm
  have lt2 : ∀ x ∈ p2, x.block < W.heap.size := by obtain ⟨m, hm⟩ := k2; exact DataW.trod_lt m _ _ _ hm
  have lt3 : ∀ x ∈ p3, x.block < W.heap.size := by obtain ⟨m, hm⟩ := k3; exact DataW.trod_lt m _ _ _ hm
  have lt4 : ∀ x ∈ p4, x.block < W.heap.size := by obtain ⟨m, hm⟩ := k4; exact DataW.trod_lt m _ _ _ hm
  obtain ⟨z, rfl, rfl, rfl, wfz⟩ := open_int Tryf.underlying3 (hval 3 3 v3 rfl rfl) h3
  obtain ⟨m0, hf0⟩ := h0
  obtain ⟨m1, hf1⟩ := h1
  obtain ⟨m2, hf2⟩ := h2
  obtain ⟨m4, hf4⟩ := h4
  obtain ⟨l0, K, rK, bK⟩ := open_n (mx := 4294967295) Tryf.underlying52 Tryf.underlying40 (by kernel_rfl) (fun n h => bounds_u32 h) hf0
  obtain ⟨l1, G, rG, bG⟩ := open_n (mx := 18446744073709551615) Tryf.underlying53 Tryf.underlying42 (by kernel_rfl) (fun n h => bounds_u64 h) hf1
  obtain ⟨l2, N, L, Z, rR, bN, bL, bZ⟩ := open_r3 hf2
  obtain ⟨l4, T, rT, bT⟩ := open_b hf4
  clear hA0 hval0
  refine (walk a0 a1 a2 a4 n0 c0 n1 c1 n2 c2 n4 c4 z K G N L Z T W l0 l1 l2 l4 (bounds_i64 wfz).2 bN bL bK bG rK rG rR bZ rT bT).mono fun e W' ⟨he, bel⟩ => ?_
  subst he
  exact ⟨_, rfl, _, _, _, [], _, [], hW', trodAll_mk1 (shut_bool Tryf.underlying4 _), (trodAll_cons_mk (Below.trod laidOut (by kernel_rfl) (of_decide_eq_true (by kernel_rfl)) k0 bel lt0) (trodAll_cons_mk (Below.trod laidOut (by kernel_rfl) (of_decide_eq_true (by kernel_rfl)) k1 bel lt1) (trodAll_cons_mk (Below.trod laidOut (by kernel_rfl) (of_decide_eq_true (by kernel_rfl)) k2 bel lt2) (trodAll_cons_mk (Below.trod laidOut (by kernel_rfl) (of_decide_eq_true (by kernel_rfl)) k3 bel lt3) (trodAll_cons_mk (Below.trod laidOut (by kernel_rfl) (of_decide_eq_true (by kernel_rfl)) k4 bel lt4) trodAll_mk0))))), rfl, bel.frame _, fun h => by cases h⟩

theorem proved : Rows.FnParseStoreAnsRoundTripToldSaid :=
  Claim7.holds_of_told_any 7 Tryf.f7 "fmt.Sprintf" [] [] _ _ _ (by kernel_rfl) rfl rfl rfl laidOutP (by kernel_rfl) rfl ⟨rfl, rfl, rfl, rfl, rfl, rfl, rfl⟩ rfl rfl (by kernel_rfl) (by kernel_rfl) Tryf.func7 (by kernel_rfl)
    (of_decide_eq_true (by kernel_rfl)) (by unfold Func.isWrapper; first | (rw [if_pos (by decide +kernel)]; kernel_rfl) | (rw [if_neg (by decide +kernel)]; exact ⟨rfl, rfl⟩)) stopsP.symm rfl knobsP.symm (by kernel_rfl)
    (by kernel_rfl) (by kernel_rfl) (by kernel_rfl) (by kernel_rfl) (by kernel_rfl) (by kernel_rfl) (by kernel_rfl) (by kernel_rfl) (by kernel_rfl) rfl (by kernel_rfl) rfl rfl
    rfl rfl
    rfl (by kernel_rfl) (by kernel_rfl) (by kernel_rfl) (by decide) (by kernel_rfl)
    (OpenClaim.moreEntering_of (by kernel_rfl) (by kernel_rfl) (by kernel_rfl) (by kernel_rfl) (by kernel_rfl) (by kernel_rfl) (by kernel_rfl) (by kernel_rfl) (by kernel_rfl) (by kernel_rfl))
    ⟨_, WideRow.started_initial, quietP _⟩
    (fun os started _ H enc _ => lifted os started H enc)

end Go.Proofs.Qxb6604610aFmt.fnParseStoreAnsRoundTrip
