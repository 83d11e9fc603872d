/-
  The walk of FnParseStoreAnsRoundTrip (7).
-/
import Derived.Test.Qxb6604610aFmtCloneT
import Derived.Test.Qxb6604610aFmtClone3
import Derived.Test.Qxb6604610aFmtPut7
import Derived.Test.Qxb6604610aFmtBytes7
import Derived.Test.Qxb6604610aFmtLaw6
import Derived.Deep.Cut
namespace Go.Proofs.Qxb6604610aFmt
open Go.RowKit Go.Extern.Stop Go.Stop Go.Extern

theorem Rep3.len {lo : Nat} {w : World} {a : Option Addr} {n : Nat} {N : Nat → Nat} {L : Nat → Nat → Nat} {Z : Nat → Nat → List Int} (h : Rep3 lo w a n N L Z) : ∀ i, i < n → ∀ j, j < N i → L i j ≤ (Z i j).length := by
  intro i hi j hj
  obtain ⟨b, off, _, _, hc⟩ := h (by omega)
  obtain ⟨ai, ci, _, hr⟩ := hc i hi
  obtain ⟨b, off, _, _, hc⟩ := hr (by omega)
  obtain ⟨aj, cj, _, hb⟩ := hc j hj
  exact hb.1.1

set_option maxRecDepth 20000 in
set_option maxHeartbeats 4000000 in
theorem law7_in (a0 a1 a2 a4 : Option Addr) (n0 c0 n1 c1 n2 c2 t c4 : Nat) (z : Int) (K G N : Nat → Nat) (L : Nat → Nat → Nat) (Z : Nat → Nat → List Int) (T : List Int) (w : World) (h0 : n0 ≤ 65536) (h1 : n1 ≤ 65536) (h2 : n2 ≤ 65536) (h4 : t ≤ 65536)
    (hz : z ≤ 9223372036854775807)
    (hN : ∀ i, i < n2 → N i ≤ maxLen) (hL : ∀ i, i < n2 → ∀ j, j < N i → L i j ≤ maxLen) (hK : ∀ i, i < n0 → K i < 4294967296) (hG : ∀ i, i < n1 → G i < 18446744073709551616)
    (r0 : VRow w a0 n0 (fun i => .int .u32 (K i))) (r1 : VRow w a1 n1 (fun i => .int .u64 (G i))) (r2 : Rep3 0 w a2 n2 N L Z) (rZ : ∀ i, i < n2 → ∀ j, j < N i → Bytes (Z i j)) (r4 : BRow w a4 t T) (hT : Bytes T) :
    Calls Tryf.prog 7 #[.slice a0 n0 c0, .slice a1 n1 c1, .slice a2 n2 c2, .int .i64 z, .slice a4 t c4] w fun e w' => e = .returned (.bool true) ∧ Below w.heap.size w w' := by
  have hB := bytes28 a0 a1 a2 a4 n0 c0 n1 c1 n2 c2 t c4 z N L Z w (by unfold maxLen; omega) (by unfold maxLen; omega) (by unfold maxLen; omega) (by unfold maxLen; omega) hN hL r2
  have HN : Hid _ := hN
  have HL : Hid _ := hL
  have HK : Hid _ := hK
  have HG : Hid _ := hG
  have R0 : Hid _ := r0
  have R1 : Hid _ := r1
  have R2 : Hid _ := r2
  have RZ : Hid _ := rZ
  have R4 : Hid _ := r4
  have HT : Hid _ := hT
  clear hN hL hK hG r0 r1 r2 rZ r4 hT
  have q0 : ¬ (65536 : Int) < (n0 : Int) := by omega
  have q1 : ¬ (65536 : Int) < (n1 : Int) := by omega
  have q2 : ¬ (65536 : Int) < (n2 : Int) := by omega
  have q4 : ¬ (65536 : Int) < (t : Int) := by omega
  go_enter Tryf.func7, Tryf.ntmps7
  go_wp2_with fail
  refine hB.mono ?_
  rintro e w' ⟨b, rfl, rfl⟩
  clear hB
  cases b with
  | false =>
    go_wp2_with fail
    go_ret
    exact ⟨rfl, Below.refl _ _⟩
  | true =>
    go_wp2_with fail
    all_goals try (go_ret; exact ⟨rfl, Below.refl _ _⟩)
    go_loopg [12, 11] (n2 + 1) (fun kx i tt wr => ∃ k u : Nat, k ≤ n2 ∧ n2 - k < kx ∧ i = .int .i64 k ∧ tt = .int .i64 u ∧ u ≤ 1048576 ∧ w = wr ∧ Hid (∀ i, i < k → N i ≤ 65536 ∧ ∀ j, j < N i → L i j ≤ 65536))
    case atStart => exact ⟨0, 4 * n0 + 8 * n1 + 24 * n2 + t, Nat.zero_le _, by omega, rfl, by go_num, by omega, rfl, fun i hi => by omega⟩
    case round =>
      obtain ⟨k, u, hk, hkx, rfl, rfl, hu, rfl, HS⟩ := hrel
      by_cases hlt : k < n2
      · obtain ⟨b, off, rfl, _, hc⟩ := R2.out (by omega)
        obtain ⟨ai, ci, g, hrow⟩ := hc k hlt
        have hlt2 : (k : Int) < (n2 : Int) := by omega
        have hNk := HN.out k hlt
        have HLk : Hid _ := HL.out k hlt
        have HRW : Hid _ := hrow
        unfold maxLen at hNk
        obtain ⟨M, hM⟩ : ∃ M, M = N k := ⟨_, rfl⟩
        rw [← hM] at g hNk
        have HM : Hid _ := hM
        clear hc hrow hM
        go_wp2_with fail
        all_goals try (go_ret; exact ⟨rfl, Below.refl _ _⟩)
        go_loopg [13, 11] (M + 1) (fun kx i tt wr => ∃ m u : Nat, m ≤ M ∧ M - m < kx ∧ i = .int .i64 m ∧ tt = .int .i64 u ∧ u ≤ 1048576 ∧ w = wr ∧ Hid (∀ j, j < m → L k j ≤ 65536))
        case atStart => exact ⟨0, u + 24 * M, Nat.zero_le _, by omega, rfl, by go_num, by omega, rfl, fun i hi => by omega⟩
        case round =>
          obtain ⟨m, v, hm, hmx, rfl, rfl, hv, rfl, HS2⟩ := hrel
          by_cases hmt : m < M
          · obtain ⟨bi, oi, rfl, _, hcj⟩ := HRW.out (by rw [← HM.out]; omega)
            obtain ⟨aj, cj, g2, hbr⟩ := hcj m (by rw [← HM.out]; exact hmt)
            have hlj := HLk.out m (by rw [← HM.out]; exact hmt)
            have hmt2 : (m : Int) < (M : Int) := by omega
            unfold maxLen at hlj
            obtain ⟨l, hl⟩ : ∃ l, l = L k m := ⟨_, rfl⟩
            rw [← hl] at g2 hlj
            have HLL : Hid _ := hl
            clear hcj hbr hl
            go_wp2_with fail
            all_goals try (go_ret; exact ⟨rfl, Below.refl _ _⟩)
            go_roundg (M - m)
            case rel =>
              refine ⟨m + 1, v + l, by omega, by omega, by go_num, by go_num, by omega, rfl, fun j hj => ?_⟩
              by_cases e : j = m
              · subst e; rw [← HLL.out]; omega
              · exact HS2.out j (by omega)
            case measure => omega
          · obtain rfl : m = M := by omega
            go_wp2_with fail
            go_roundg (n2 - k)
            case rel =>
              refine ⟨k + 1, v, by omega, by omega, by go_num, rfl, hv, rfl, fun i hi => ?_⟩
              by_cases e : i = k
              · subst e; rw [← HM.out]; exact ⟨by omega, HS2.out⟩
              · exact HS.out i (by omega)
            case measure => omega
      · obtain rfl : k = n2 := by omega
        by_cases hz1 : z < 1
        · go_wp2_with fail
          go_ret
          exact ⟨rfl, Below.refl _ _⟩
        obtain ⟨s, rfl⟩ := Int.eq_ofNat_of_zero_le (show 0 ≤ z by omega)
        by_cases e1 : n1 = n0
        case neg =>
          have e1' : ¬ (n1 : Int) = (n0 : Int) := by omega
          go_wp2_with fail
          go_ret
          exact ⟨rfl, Below.refl _ _⟩
        by_cases e2 : k = n0
        case neg =>
          have e2' : ¬ (k : Int) = (n0 : Int) := by omega
          go_wp2_with fail
          go_ret
          exact ⟨rfl, Below.refl _ _⟩
        subst e1
        subst e2
        clear hkx hk
        have hs1 : 1 ≤ s := by omega
        go_wp2_with fail
        go_loopg [15, 14] (k + 1) (fun kx iv ov wr => ∃ i O : Nat, i ≤ k ∧ k - i < kx ∧ iv = .int .i64 i ∧ ov = .int .i64 O ∧ O ≤ 65535 ∧ w = wr ∧ Hid (O = sumO N s i ∧ ∀ i', i' < i → ∀ j, j < N i' → L i' j = s))
        case atStart => exact ⟨0, 0, Nat.zero_le _, by omega, rfl, rfl, by omega, rfl, rfl, fun i hi => by omega⟩
        case round =>
          obtain ⟨i, O, hi, hix, rfl, rfl, hO, rfl, HSO⟩ := hrel
          by_cases hlt : i < k
          · obtain ⟨b, off, rfl, _, hc⟩ := R2.out (by omega)
            obtain ⟨ai, ci, g, hrow⟩ := hc i hlt
            have hlt2 : (i : Int) < (k : Int) := by omega
            have HRW : Hid _ := hrow
            obtain ⟨M, hM⟩ : ∃ M, M = N i := ⟨_, rfl⟩
            obtain ⟨hMb, hLb⟩ := HS.out i hlt
            have HLB : Hid _ := hLb
            rw [← hM] at g hMb
            have HM : Hid _ := hM
            clear hc hrow hM hLb
            go_wp2_with fail
            go_loopg [17, 16] (M + 1) (fun kx jv nv wr => ∃ m I : Nat, m ≤ M ∧ M - m < kx ∧ jv = .int .i64 m ∧ nv = .int .i64 I ∧ I ≤ 65535 ∧ w = wr ∧ Hid (I = m * s ∧ ∀ j, j < m → L i j = s))
            case atStart => exact ⟨0, 0, Nat.zero_le _, by omega, rfl, rfl, by omega, rfl, (Nat.zero_mul s).symm, fun i hi => by omega⟩
            case round =>
              obtain ⟨m, I, hm, hmx, rfl, rfl, hI, rfl, HSI⟩ := hrel
              by_cases hmt : m < M
              · obtain ⟨bi, oi, rfl, _, hcj⟩ := HRW.out (by rw [← HM.out]; omega)
                obtain ⟨aj, cj, g2, hbr⟩ := hcj m (by rw [← HM.out]; exact hmt)
                have hlj := HLB.out m (by rw [← HM.out]; exact hmt)
                have hmt2 : (m : Int) < (M : Int) := by omega
                obtain ⟨l, hl⟩ : ∃ l, l = L i m := ⟨_, rfl⟩
                rw [← hl] at g2 hlj
                have HLL : Hid _ := hl
                clear hcj hbr hl
                by_cases els : l = s
                · subst els
                  go_wp2_with fail
                  all_goals try (go_ret; exact ⟨rfl, Below.refl _ _⟩)
                  go_roundg (M - m)
                  case rel =>
                    refine ⟨m + 1, I + l, by omega, by omega, by go_num, by go_num, by omega, rfl, by rw [HSI.out.1, Nat.add_mul, Nat.one_mul], fun j hj => ?_⟩
                    by_cases e : j = m
                    · subst e; exact HLL.out.symm
                    · exact HSI.out.2 j (by omega)
                  case measure => omega
                · have els' : ¬ (l : Int) = (s : Int) := by omega
                  go_wp2_with fail
                  go_ret
                  exact ⟨rfl, Below.refl _ _⟩
              · obtain rfl : m = M := by omega
                go_wp2_with fail
                all_goals try (go_ret; exact ⟨rfl, Below.refl _ _⟩)
                go_roundg (k - i)
                case rel =>
                  refine ⟨i + 1, O + (14 + I), by omega, by omega, by go_num, by go_num, by omega, rfl, by rw [HSO.out.1, HSI.out.1, HM.out]; rfl, fun i' hi' => ?_⟩
                  by_cases e : i' = i
                  · subst e; rw [← HM.out]; exact HSI.out.2
                  · exact HSO.out.2 i' (by omega)
                case measure => omega
          · have eik : i = k := by omega
            subst eik
            have hC0 := clone32 a0 i c0 K w (by omega) R0.out
            go_wp2_with fail
            refine hC0.mono ?_
            rintro e wA ⟨a0', c0', rfl, V0, bA⟩
            have hC1 := clone64 a1 i c1 G wA (by omega) (VRow.below R1.out bA)
            clear hC0
            go_wp2_with fail
            refine hC1.mono ?_
            rintro e wB ⟨a1', c1', rfl, V1, bB⟩
            have bB' : Below w.heap.size w wB := bA.trans (bB.mono bA.size)
            have hC2 := clone3 a2 i c2 N L Z wB (by omega) (fun j hj => by have := (HS.out j hj).1; omega) (fun j hj j' hj' => by have := (HS.out j hj).2 j' hj'; omega) (Rep3.stay R2.out (Stay.of_below bB'))
            have V0' := V0.below bB
            clear hC1 V0
            go_wp2_with fail
            refine hC2.mono ?_
            rintro e wC ⟨a2', c2', rfl, V2, bC⟩
            have bC' : Below w.heap.size w wC := bB'.trans (bC.mono bB'.size)
            have hC3 := clone_any a4 t c4 T wC (by omega) (BRow.below R4.out bC') (fun e => by
              rcases Nat.eq_zero_or_pos t with h | h
              · exact h
              · obtain ⟨_, _, hx, _⟩ := R4.out.2 h; rw [e] at hx; cases hx)
            have V0 := V0'.below bC
            have V1' := V1.below bC
            clear hC2 V0' V1
            go_wp2_with fail
            refine hC3.mono ?_
            rintro e wD ⟨a4', c4', rfl, V4, bD⟩
            have bD' : Below w.heap.size w wD := bC'.trans (bD.mono bC'.size)
            have W0 : Hid _ := V0.below bD
            have W1 : Hid _ := V1'.below bD
            have W2 : Hid _ := V2.stay (Stay.of_below bD)
            have W4 : Hid _ := V4
            obtain ⟨zs, hE⟩ := enc_exists i s t K G N Z T (fun i' hi' j hj => by rw [← HSO.out.2 i' hi' j hj]; exact Rep3.len R2.out i' hi' j hj) RZ.out V4.1 HT.out
            have HE : Hid _ := hE
            have HBD : Hid _ := bD'
            clear hC3 V0 V1' V2 V4 bA bB bB' bC bC' bD bD' hE
            obtain ⟨i5, hi5, hz05, hz15, hz25⟩ := info_parts Tryf.info5
            obtain ⟨E, hEE⟩ : ∃ E, E = 2 + O + t := ⟨_, rfl⟩
            have hEi : (2 : Int) + (O : Int) + (t : Int) = (E : Nat) := by omega
            have HEE : Hid _ := hEE
            have hEm : E ≤ 2097152 := by omega
            have hE2 : 2 ≤ E := by omega
            clear hEE
            go_upto_region 49 with (at_make; refine wpList_make_full _ rfl _ _ 22 rfl wD.heap.size 5 i5 _ 1 Tryf.underlying22 hi5 hz05 hz15 .i64 .i64 _ _ E rfl rfl (by first | rfl | omega) (by first | rfl | omega) (by rw [hz25]; omega) (by unfold maxLen; omega) (Nat.le_refl _) ?_; intro w1 hown1 hg1)
            have hb1 : Below wD.heap.size wD w1 := (Below.refl _ wD).grown hg1 (Nat.le_refl _) (fun k h => by cases h)
            obtain ⟨B, hB⟩ : ∃ B, B = wD.heap.size := ⟨_, rfl⟩
            rw [← hB] at hb1
            have F0 : Filled w1 B E 0 zs := hB ▸ Filled.start hown1
            have hOs := HSO.out.1
            obtain ⟨ee0, ee1⟩ := be_at2 O hO
            have F1 : Filled (w1.setCell ⟨B, 0, none⟩ (.int .u8 ((O : Int) / 256))) B E 1 zs := F0.put (by omega) _ (by
              have := HE.out.head 0 (by omega)
              rw [← hOs, ee0] at this
              exact this)
            have F2 : Filled ((w1.setCell ⟨B, 0, none⟩ (.int .u8 ((O : Int) / 256))).setCell ⟨B, 1, none⟩ (.int .u8 ((O : Int) % 256))) B E 2 zs := F1.put (by omega) _ (by
              have := HE.out.head 1 (by omega)
              rw [← hOs, ee1] at this
              exact this)
            obtain ⟨v0, d0⟩ := F0.cell (by omega)
            obtain ⟨v1, d1⟩ := F1.cell (by omega)
            have f0 := F0.free 0
            have f1 := F1.free 1
            have HB2 : Hid (Below B wD ((w1.setCell ⟨B, 0, none⟩ (.int .u8 ((O : Int) / 256))).setCell ⟨B, 1, none⟩ (.int .u8 ((O : Int) % 256)))) := below_set (below_set hb1 _ _) _ _
            have HF2 : Hid _ := F2
            have HBB : Hid (B = wD.heap.size) := hB
            have hEE0 : (0 : Int) < (E : Int) := by omega
            have hEE1 : (1 : Int) < (E : Int) := by omega
            rw [← hB]
            clear F0 F1 F2 hg1 hown1 hb1 hB hOs ee0 ee1 hEi hi5 hz05 hz15 hz25
            go_wp2_with fail
            go_loopg [20, 19] (i + 1) (fun kx iv pv wr => ∃ k P : Nat, k ≤ i ∧ i - k < kx ∧ iv = .int .i64 k ∧ pv = .int .i64 P ∧ P ≤ E ∧ Hid (P = 2 + sumO N s k ∧ Filled wr B E P zs ∧ Below B wD wr))
            case atStart => exact ⟨0, 2, Nat.zero_le _, by omega, rfl, rfl, hE2, rfl, HF2.out, HB2.out⟩
            case round =>
              rename World => wo
              obtain ⟨k, P, hk, hkx, rfl, rfl, hP, HI⟩ := hrel
              clear d0 d1 f0 f1 HB2 HF2
              by_cases hlt : k < i
              · obtain ⟨b0, o0, rfl, hc0⟩ := W0.out (by omega)
                obtain ⟨b1, o1, rfl, hc1⟩ := W1.out (by omega)
                obtain ⟨b2, o2, rfl, _, hc2⟩ := W2.out (by omega)
                obtain ⟨ai, ci, hc2', hrow⟩ := hc2 k hlt
                have hlt2 : (k : Int) < (i : Int) := by omega
                have far0 : ∀ x, Below B wD x → x.cell? ⟨b0, o0 + k, none⟩ = some (.int .u32 (K k)) := fun x hx => (hx.cell (p := ⟨b0, o0 + k, none⟩) (by rw [HBB.out]; exact World.block_lt_of_cell? _ _ (hc0 k hlt))).trans (hc0 k hlt)
                have far1 : ∀ x, Below B wD x → x.cell? ⟨b1, o1 + k, none⟩ = some (.int .u64 (G k)) := fun x hx => (hx.cell (p := ⟨b1, o1 + k, none⟩) (by rw [HBB.out]; exact World.block_lt_of_cell? _ _ (hc1 k hlt))).trans (hc1 k hlt)
                have far2 : ∀ x, Below B wD x → x.cell? ⟨b2, o2 + k, none⟩ = some (.slice ai (N k) ci) := fun x hx => (hx.cell (p := ⟨b2, o2 + k, none⟩) (by rw [HBB.out]; exact World.block_lt_of_cell? _ _ hc2')).trans hc2'
                have hroom : P + 14 + N k * s ≤ 2 + O := by
                  have := sumO_lt N s hlt
                  have := HSO.out.1
                  have := HI.out.1
                  omega
                have hroom2 : P + 14 + N k * s ≤ E := by
                  have := HEE.out
                  omega
                have HRW : Hid _ := hrow
                have FAR1 : Hid _ := far1
                have FAR2 : Hid _ := far2
                have g0 := far0 wo HI.out.2.2
                have hP32 := put32 B E P (K k) zs wo HI.out.2.1 (by omega) hEm (HK.out k hlt) (fun j hj => by rw [HI.out.1]; exact HE.out.kind k hlt j hj)
                obtain ⟨I, hI⟩ : ∃ I, I = N k * s := ⟨_, rfl⟩
                obtain ⟨M, hM⟩ : ∃ M, M = N k := ⟨_, rfl⟩
                rw [← hI] at hroom hroom2
                have HII : Hid _ := hI
                have HM : Hid _ := hM
                have hms : (M : Int) * (s : Int) = (I : Nat) := by rw [hI, hM]; simp
                clear hc0 hc1 hc2 hc2' hrow far0 far1 far2 hM hI
                go_wp2_with fail
                refine hP32.mono ?_
                rintro e wp1 ⟨rfl, fp1, bp1⟩
                have bel1 : Below B wD wp1 := Below.trans HI.out.2.2 bp1
                have g1 := FAR1.out wp1 bel1
                have hP64 := put64 B E (P + 4) (G k) zs wp1 fp1 (by omega) hEm (HG.out k hlt) (fun j hj => by rw [HI.out.1]; exact HE.out.gen k hlt j hj)
                rw [show ((P + 4 : Nat) : Int) = (P : Int) + 4 by omega] at hP64
                clear hP32 fp1 bp1 g0
                go_wp2_with fail
                refine hP64.mono ?_
                rintro e wp2 ⟨rfl, fp2, bp2⟩
                have bel2 : Below B wD wp2 := Below.trans bel1 bp2
                have g2 := FAR2.out wp2 bel2
                rw [← HM.out] at g2
                have hI65 : I ≤ 65535 := by omega
                have hM65 : M ≤ I := by rw [HII.out, ← HM.out]; exact Nat.le_mul_of_pos_right M hs1
                obtain ⟨ee0, ee1⟩ := be_at2 I hI65
                have fp3 : Filled (wp2.setCell ⟨B, P + 4 + 8, none⟩ (.int .u8 ((I : Int) / 256))) B E (P + 4 + 8 + 1) zs := fp2.put (by omega) _ (by
                  have := HE.out.num k hlt 0 (by omega)
                  rw [← HI.out.1, ← HII.out, ee0] at this
                  exact this)
                have fp4 : Filled ((wp2.setCell ⟨B, P + 4 + 8, none⟩ (.int .u8 ((I : Int) / 256))).setCell ⟨B, P + 4 + 8 + 1, none⟩ (.int .u8 ((I : Int) % 256))) B E (P + 4 + 8 + 1 + 1) zs := fp3.put (by omega) _ (by
                  have := HE.out.num k hlt 1 (by omega)
                  rw [← HI.out.1, ← HII.out, ee1] at this
                  exact this)
                obtain ⟨v0, d0⟩ := fp2.cell (by omega)
                obtain ⟨v1, d1⟩ := fp3.cell (by omega)
                have f0 := fp2.free (P + 4 + 8)
                have f1 := fp3.free (P + 4 + 8 + 1)
                have HF4 : Hid _ := fp4
                have HB4 : Hid (Below B wD ((wp2.setCell ⟨B, P + 4 + 8, none⟩ (.int .u8 ((I : Int) / 256))).setCell ⟨B, P + 4 + 8 + 1, none⟩ (.int .u8 ((I : Int) % 256)))) := below_set (below_set bel2 _ _) _ _
                clear hP64 bp2 bel1 g1 fp2 fp3 fp4 bel2 ee0 ee1
                go_wp2_with fail
                go_loopg [22, 19] (M + 1) (fun kx jv pv wr => ∃ m Q : Nat, m ≤ M ∧ M - m < kx ∧ jv = .int .i64 m ∧ pv = .int .i64 Q ∧ Q ≤ E ∧ Hid (Q = P + 14 + m * s ∧ Filled wr B E Q zs ∧ Below B wD wr))
                case atStart => exact ⟨0, P + 14, Nat.zero_le _, by omega, rfl, by rw [show (P : Int) + 4 + 8 + 2 = ((P + 14 : Nat) : Int) by omega], by omega, by rw [Nat.zero_mul], HF4.out, HB4.out⟩
                case round =>
                  rename World => wm
                  obtain ⟨m, Q, hm, hmx, rfl, rfl, hQ, HJ⟩ := hrel
                  clear d0 d1 f0 f1 HF4 HB4 g2
                  have g2 := FAR2.out wm HJ.out.2.2
                  rw [← HM.out] at g2
                  by_cases hmt : m < M
                  · obtain ⟨bi, oi, rfl, _, hcj⟩ := HRW.out (by rw [← HM.out]; omega)
                    obtain ⟨aj, cj, g3, hbr⟩ := hcj m (by rw [← HM.out]; exact hmt)
                    have hls := HSO.out.2 k hlt m (by rw [← HM.out]; exact hmt)
                    rw [hls] at g3 hbr
                    obtain ⟨bj, oj, rfl, hcb⟩ := hbr.1.2 (by omega)
                    have hmt2 : (m : Int) < (M : Int) := by omega
                    have hms2 : m * s + s ≤ I := by
                      rw [HII.out, ← HM.out, show m * s + s = (m + 1) * s by rw [Nat.add_mul, Nat.one_mul]]
                      exact Nat.mul_le_mul_right s hmt
                    have hQs : Q + s ≤ E := by have := HJ.out.1; omega
                    have hs65 : s ≤ 65535 := by omega
                    have FAR3 : Hid (∀ x, Below B wD x → x.cell? ⟨bi, oi + m, none⟩ = some (.slice (some ⟨bj, oj, none⟩) s cj)) := fun x hx => (hx.cell (p := ⟨bi, oi + m, none⟩) (by rw [HBB.out]; exact World.block_lt_of_cell? _ _ g3)).trans g3
                    have FAR4 : Hid (∀ x, Below B wD x → ∀ y, y < s → x.cell? ⟨bj, oj + y, none⟩ = some (.int .u8 ((Z k m).getD y 0))) := fun x hx y hy => (hx.cell (p := ⟨bj, oj + y, none⟩) (by rw [HBB.out]; exact World.block_lt_of_cell? _ _ (hcb y hy))).trans (hcb y hy)
                    clear hcj g3 hbr hcb hls
                    go_wp2_with fail
                    go_loopg [23] (s + 1) (fun kx yv wr => ∃ y : Nat, y ≤ s ∧ s - y < kx ∧ yv = .int .i64 y ∧ Hid (Filled wr B E (Q + y) zs ∧ Below B wD wr))
                    case atStart => exact ⟨0, Nat.zero_le _, by omega, rfl, HJ.out.2⟩
                    case round =>
                      rename World => wy
                      obtain ⟨y, hy, hyx, rfl, HY⟩ := hrel
                      by_cases hyt : y < s
                      · have g5 := FAR2.out wy HY.out.2
                        rw [← HM.out] at g5
                        have g6 := FAR3.out wy HY.out.2
                        have g7 := FAR4.out wy HY.out.2 y hyt
                        obtain ⟨cc, hcc⟩ : ∃ cc, cc = (Z k m).getD y 0 := ⟨_, rfl⟩
                        rw [← hcc] at g7
                        have HCC : Hid _ := hcc
                        obtain ⟨v0, d0⟩ := Filled.cell HY.out.1 (by omega)
                        have f0 := Filled.free HY.out.1 (Q + y)
                        have hyt2 : (y : Int) < (s : Int) := by omega
                        have hQy : (Q : Int) + (y : Int) < (E : Int) := by omega
                        clear hcc
                        go_wp2_with fail
                        go_roundg (s - y)
                        case rel =>
                          refine ⟨y + 1, by omega, by omega, by go_num, Filled.put HY.out.1 (by omega) _ ?_, below_set HY.out.2 _ _⟩
                          have := HE.out.rep k hlt m (by rw [← HM.out]; exact hmt) y hyt
                          rw [← HI.out.1, ← HJ.out.1, ← HCC.out] at this
                          exact this
                        case measure => omega
                      · have eys : y = s := by omega
                        subst eys
                        go_wp2_with fail
                        go_roundg (M - m)
                        case rel => exact ⟨m + 1, Q + y, by omega, by omega, by go_num, by go_num, by omega, by rw [HJ.out.1, Nat.add_mul, Nat.one_mul]; omega, HY.out⟩
                        case measure => omega
                  · have emm : m = M := by omega
                    subst emm
                    go_wp2_with fail
                    go_roundg (i - k)
                    case rel => exact ⟨k + 1, Q, by omega, by omega, by go_num, rfl, hQ, by rw [HJ.out.1, HI.out.1, HM.out, sumO]; omega, HJ.out.2⟩
                    case measure => omega
              · have eki : k = i := by omega
                subst eki
                have hPO : P = 2 + O := by have := HI.out.1; have := HSO.out.1; omega
                have HEP : Hid (E = P + t) := by have := HEE.out; show E = P + t; omega
                have HPO : Hid _ := hPO
                have hP65 : P ≤ 65537 := by omega
                clear hPO
                go_wp2_with fail
                go_loopg [24] (t + 1) (fun kx yv wr => ∃ y : Nat, y ≤ t ∧ t - y < kx ∧ yv = .int .i64 y ∧ Hid (Filled wr B E (P + y) zs ∧ Below B wD wr))
                case atStart => exact ⟨0, Nat.zero_le _, by omega, rfl, HI.out.2⟩
                case round =>
                  rename World => wy
                  obtain ⟨y, hy, hyx, rfl, HY⟩ := hrel
                  by_cases hyt : y < t
                  · obtain ⟨b4, o4, rfl, hc4⟩ := W4.out.2 (by omega)
                    have g4 : wy.cell? ⟨b4, o4 + y, none⟩ = some (.int .u8 (T.getD y 0)) := ((HY.out.2).cell (p := ⟨b4, o4 + y, none⟩) (by rw [HBB.out]; exact World.block_lt_of_cell? _ _ (hc4 y hyt))).trans (hc4 y hyt)
                    obtain ⟨cc, hcc⟩ : ∃ cc, cc = T.getD y 0 := ⟨_, rfl⟩
                    rw [← hcc] at g4
                    have HCC : Hid _ := hcc
                    have hPy : P + y < E := by have := HEP.out; omega
                    obtain ⟨v0, d0⟩ := Filled.cell HY.out.1 hPy
                    have f0 := Filled.free HY.out.1 (P + y)
                    have hyt2 : (y : Int) < (t : Int) := by omega
                    have hQy : (P : Int) + (y : Int) < (E : Int) := by omega
                    clear hcc hc4
                    go_wp2_with fail
                    go_roundg (t - y)
                    case rel =>
                      refine ⟨y + 1, by omega, by omega, by go_num, Filled.put HY.out.1 hPy _ ?_, below_set HY.out.2 _ _⟩
                      have := HE.out.tail y hyt
                      rw [← HI.out.1, ← HCC.out] at this
                      exact this
                    case measure => omega
                  · have eyt : y = t := by omega
                    subst eyt
                    have row : BRow wy (some ⟨B, 0, none⟩) E zs := Filled.row (by have := HY.out.1; rwa [← HEP.out] at this) (by rw [HE.out.len, HEP.out, HI.out.1]; exact Nat.le_refl _)
                    have hlt' := Filled.lt HY.out.1
                    have b1 : Below w.heap.size w wy := Below.trans HBD.out (HY.out.2.mono (by rw [HBB.out]; exact HBD.out.size))
                    have hPr := parse26 (some ⟨B, 0, none⟩) E B E s zs wy (Or.inr ⟨rfl, rfl, row, hlt'⟩) HE.out.bytes hs1 hEm
                    have HROW : Hid _ := row
                    have HB1 : Hid _ := b1
                    have hlz : lenV zs 0 2 = O := by rw [HSO.out.1]; exact HE.out.outer (by rw [← HSO.out.1]; exact hO)
                    have HLZ : Hid _ := hlz
                    clear row b1 hlz
                    go_wp2_with fail
                    refine hPr.mono ?_
                    rintro e wP ⟨bP, hP2⟩
                    clear hPr
                    have b2 : Below w.heap.size w wP := Below.trans HB1.out (bP.mono HB1.out.size)
                    have b3 : Below B wD wP := Below.trans HY.out.2 (bP.mono (by omega))
                    rcases hP2 with ⟨ka, m, kc, rvs, rfl, hn2, hW⟩ | ⟨f, rfl, hy2⟩
                    · have ho5 : sumO N s k ≤ 65535 := by rw [← HSO.out.1]; exact hO
                      have ey0 : y = 0 := by have := HEP.out; have := HPO.out; have := HLZ.out; omega
                      have hmk : m = k := HE.out.many ho5 (by rw [hW.at', HEP.out, HI.out.1, ey0]; rfl)
                      subst hmk
                      subst ey0
                      have b1 : Below wP.heap.size wP (wP.alloc (.cells #[.slice ka m kc] 47)) := (Below.refl _ _).alloc (Nat.le_refl _) _
                      have HB3 : Hid (Below w.heap.size w (wP.alloc (.cells #[.slice ka m kc] 47))) := b2.trans (b1.mono b2.size)
                      have HBW : Hid (Below B wD (wP.alloc (.cells #[.slice ka m kc] 47))) := b3.trans (b1.mono (by have := b3.size; have := HBB.out; omega))
                      have HROW2 : Hid (BRow (wP.alloc (.cells #[.slice ka m kc] 47)) (some ⟨B, 0, none⟩) E zs) := (BRow.below HROW.out bP).below b1
                      have HW : Hid (Whole B s E zs wy.heap.size (wP.alloc (.cells #[.slice ka m kc] 47)) (.slice ka m kc) m rvs) := hW.frame (Frame.of_below (S := fun _ => False) b1) (fun _ _ => id)
                      have cK : (wP.alloc (.cells #[.slice ka m kc] 47)).cell? ⟨wP.heap.size, 0, none⟩ = some (.slice ka m kc) := (cell_of_row _ _ 0 _ 47 (0, 0) (heap_alloc_new wP _)).trans rfl
                      have HO5 : Hid _ := ho5
                      clear hW b1 b2 b3 bP hn2 ho5
                      go_wp2_with fail
                      obtain ⟨W, hWe⟩ : ∃ W, W = wP.alloc (.cells #[.slice ka m kc] 47) := ⟨_, rfl⟩
                      rw [← hWe] at HB3 HBW HROW2 HW ⊢
                      clear cK hWe
                      go_loopg [29, 19] (m + 1) (fun kx iv pv wr => ∃ c Q : Nat, c ≤ m ∧ m - c < kx ∧ iv = .int .i64 c ∧ pv = .int .i64 Q ∧ Q ≤ E ∧ Hid (Q = 2 + sumO N s c) ∧ ∃ q, wr = W.drewN q)
                      case atStart => exact ⟨0, 2, Nat.zero_le _, by omega, rfl, rfl, hE2, rfl, 0, rfl⟩
                      case round =>
                        obtain ⟨c, Q, hc, hcx, rfl, rfl, hQ, HQ, q, rfl⟩ := hrel
                        by_cases hct : c < m
                        · obtain ⟨g, rfl, k0, k1, k2⟩ := HW.out.item hct
                          obtain ⟨ra, rc, hrv, hrep⟩ := HW.out.rep hct
                          rw [hrv, HE.out.count HO5.out hs1 hct] at k2
                          rw [HE.out.pos HO5.out (Nat.le_of_lt hct)] at k0 k1
                          rw [HE.out.kinds hct (HK.out c hct)] at k0
                          rw [HE.out.gens hct (HG.out c hct)] at k1
                          rw [HE.out.count HO5.out hs1 hct, HE.out.pos HO5.out (Nat.le_of_lt hct), ← HQ.out] at hrep
                          obtain ⟨b0, o0, rfl, hc0⟩ := W0.out (by omega)
                          obtain ⟨b1, o1, rfl, hc1⟩ := W1.out (by omega)
                          obtain ⟨b2, o2, rfl, _, hc2⟩ := Rep3.stay W2.out (show Stay 0 wD W from Stay.of_below (HBB.out ▸ HBW.out)) (by omega)
                          obtain ⟨ai, ci, g2, hrow⟩ := hc2 c hct
                          have g0 : W.cell? ⟨b0, o0 + c, none⟩ = some (.int .u32 (K c)) := (HBW.out.cell (p := ⟨b0, o0 + c, none⟩) (by rw [HBB.out]; exact World.block_lt_of_cell? _ _ (hc0 c hct))).trans (hc0 c hct)
                          have g1 : W.cell? ⟨b1, o1 + c, none⟩ = some (.int .u64 (G c)) := (HBW.out.cell (p := ⟨b1, o1 + c, none⟩) (by rw [HBB.out]; exact World.block_lt_of_cell? _ _ (hc1 c hct))).trans (hc1 c hct)
                          have hroom : Q + 14 + N c * s ≤ E := by
                            have h1 := sumO_lt N s hct
                            have h2 := HQ.out
                            have h3 := HSO.out.1
                            have h4 := HEE.out
                            omega
                          obtain ⟨I, hI⟩ : ∃ I, I = N c * s := ⟨_, rfl⟩
                          obtain ⟨M, hM⟩ : ∃ M, M = N c := ⟨_, rfl⟩
                          rw [← hI] at hroom
                          rw [← hM] at k2 g2 hrep
                          have hM65 : M ≤ I := by rw [hI, ← hM]; exact Nat.le_mul_of_pos_right M hs1
                          have HII : Hid _ := hI
                          have HM : Hid _ := hM
                          have HREP : Hid _ := hrep
                          have HRW : Hid _ := hrow
                          have hct2 : (c : Int) < (m : Int) := by omega
                          clear hc0 hc1 hc2 hrv hrep hrow hI hM
                          go_wp2_with fail
                          go_quiet (fail)
                          go_wp2_with fail
                          go_loopg [30, 19] (M + 1) (fun kx jv pv wr => ∃ d R : Nat, d ≤ M ∧ M - d < kx ∧ jv = .int .i64 d ∧ pv = .int .i64 R ∧ R ≤ E ∧ Hid (R = Q + 14 + d * s) ∧ ∃ q, wr = W.drewN q)
                          case atStart => exact ⟨0, Q + 14, Nat.zero_le _, by omega, rfl, by go_num, by omega, by show Q + 14 = Q + 14 + 0 * s; rw [Nat.zero_mul], q + nq, by simp⟩
                          case round =>
                            obtain ⟨d, R, hd, hdx, rfl, rfl, hR, HRR, q2, rfl⟩ := hrel
                            by_cases hdt : d < M
                            · obtain ⟨g', rfl, k3⟩ := HREP.out d hdt
                              rw [← HRR.out] at k3
                              obtain ⟨bi, oi, rfl, _, hcj⟩ := HRW.out (by rw [← HM.out]; omega)
                              obtain ⟨aj, cj, g3, hbr⟩ := hcj d (by rw [← HM.out]; exact hdt)
                              have hls := HSO.out.2 c hct d (by rw [← HM.out]; exact hdt)
                              rw [hls] at g3 hbr
                              have hms2 : d * s + s ≤ I := by
                                rw [HII.out, ← HM.out, show d * s + s = (d + 1) * s by rw [Nat.add_mul, Nat.one_mul]]
                                exact Nat.mul_le_mul_right s hdt
                              have hRs : R + s ≤ E := by have := HRR.out; omega
                              have hdt2 : (d : Int) < (M : Int) := by omega
                              have hs65 : s ≤ 2097152 := by omega
                              have hRE : (R : Int) < (E : Int) := by omega
                              have hs0 : (0 : Int) < (s : Int) := by omega
                              have hEQ2 : ∀ x : Nat, Calls Tryf.prog 17 #[.slice (some ⟨B, R, none⟩) s s, .slice aj s cj] (W.drewN (q2 + x)) fun e w'' => e = .returned (.bool true) ∧ ∃ n, w'' = W.drewN (q2 + n) := fun x => by
                                refine (eq_true (some ⟨B, R, none⟩) aj s s cj (zs.drop R) (Z c d) (W.drewN (q2 + x)) (by omega) (BRow.drewN (cutA_pos B R s hs1 ▸ BRow.cut HROW2.out (by omega)) _) (hbr.1.drewN _) (fun y hyy => ?_)).mono ?_
                                · rw [drop_getD, HRR.out, HQ.out]
                                  exact HE.out.rep c hct d (by rw [← HM.out]; exact hdt) y hyy
                                · rintro e w' ⟨rfl, q5, rfl⟩
                                  exact ⟨rfl, x + q5, by simp [Nat.add_assoc]⟩
                              have hpp := ptr_self
                              clear hcj hbr hls
                              go_wp2_with fail
                              go_quiet (exact hEQ2 _)
                              go_wp2_with fail
                              go_roundg (M - d)
                              case rel => exact ⟨d + 1, R + s, by omega, by omega, by go_num, by go_num, by omega, by show R + s = Q + 14 + (d + 1) * s; rw [HRR.out, Nat.add_mul, Nat.one_mul]; omega, _, rfl⟩
                              case measure => omega
                            · have edm : d = M := by omega
                              subst edm
                              go_wp2_with fail
                              go_roundg (m - c)
                              case rel => exact ⟨c + 1, R, by omega, by omega, by go_num, rfl, hR, by show R = 2 + sumO N s (c + 1); rw [HRR.out, HQ.out, HM.out, sumO]; omega, _, rfl⟩
                              case measure => omega
                        · have ecm : c = m := by omega
                          subst ecm
                          go_wp2_with fail
                          go_ret
                          exact ⟨rfl, below_drewN HB3.out _⟩
                    · have hfw := HE.out.why (by rw [← HSO.out.1]; exact hO) (f := f) (by rw [← HI.out.1, ← HEP.out]; exact hy2)
                      have hff : (f : Int) = 2 + (O : Int) := by have := hfw.1; have := HSO.out.1; omega
                      have hy0 : (0 : Int) < (y : Int) := by have := hfw.2; omega
                      have HB3 : Hid (Below w.heap.size w (wP.alloc (.cells #[.slice none 0 0] 47))) := b2.trans (((Below.refl _ wP).alloc (Nat.le_refl _) _).mono b2.size)
                      have cK : (wP.alloc (.cells #[.slice none 0 0] 47)).cell? ⟨wP.heap.size, 0, none⟩ = some (.slice none 0 0) := (cell_of_row _ _ 0 _ 47 (0, 0) (heap_alloc_new wP _)).trans rfl
                      have hnil := nil45
                      clear hy2 b2 b3 hfw bP
                      go_wp2_with fail
                      go_ret
                      exact ⟨by simp, HB3.out⟩
end Go.Proofs.Qxb6604610aFmt
