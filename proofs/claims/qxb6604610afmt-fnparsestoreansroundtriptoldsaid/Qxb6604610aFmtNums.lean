/-
  be64_b1 (43), Uint32 (23), Uint64 (24), Fixed (21).
-/
import Derived.Test.Qxb6604610aFmtBin
namespace Go.Proofs.Qxb6604610aFmt
open Go.RowKit Go.Extern.Stop Go.Stop Go.Extern

theorem lenV_lt {zs : List Int} (hz : Bytes zs) (off k : Nat) : lenV zs off k < 256 ^ k := by
  induction k with
  | zero => simp [lenV]
  | succ m ih =>
    have := hz (off + m)
    simp only [lenV, Nat.pow_succ]
    omega
/-- A byte of a row. -/
theorem byteAt {w : World} {b n : Nat} {zs : List Int} (row : BRow w (some ⟨b, 0, none⟩) n zs) (hz : Bytes zs) {i : Nat} (hi : i < n) : ∃ z : Nat, z ≤ 255 ∧ zs.getD i 0 = z ∧ w.cell? ⟨b, i, none⟩ = some (.int .u8 z) := by
  obtain ⟨b', off', hx, hc⟩ := row.2 (by omega)
  obtain ⟨rfl, rfl⟩ : b = b' ∧ 0 = off' := by simpa using hx
  have h1 := hz i
  have h2 := hc i hi
  rw [Nat.zero_add] at h2
  refine ⟨(zs.getD i 0).toNat, by omega, by omega, ?_⟩
  rw [h2]; congr 2; omega

set_option maxHeartbeats 2000000 in
theorem be64_any (b p n c : Nat) (zs : List Int) (w : World) (hp : p + 8 ≤ n) (hn : n ≤ 2097152) (row : BRow w (some ⟨b, 0, none⟩) n zs) (hz : Bytes zs) :
    Calls Tryf.prog 43 #[.slice (some ⟨b, 0, none⟩) n c, .int .i64 p] w fun e w' => e = .returned (.int .u64 (lenV zs p 8 : Nat)) ∧ w = w' := by
  go_enter Tryf.func43, Tryf.ntmps43
  go_wp2
  go_loop [5, 6] (fun v i => ∃ k : Nat, k ≤ 8 ∧ i = .int .i64 k ∧ v = .int .u64 (lenV zs p k : Nat)) (fun _ i => 9 - (intOf i).toNat)
  case atStart => exact ⟨0, Nat.zero_le _, rfl, rfl⟩
  case round =>
    obtain ⟨k, hk, rfl, rfl⟩ := hrel
    by_cases hlt : k < 8
    · obtain ⟨z, hzb, hzz, g0⟩ := byteAt row hz (i := p + k) (by omega)
      have hst : lenV zs p (k + 1) = lenV zs p k * 256 + z := by simp only [lenV]; rw [hzz]; rfl
      have hv : lenV zs p k ≤ 72057594037927935 := by
        have h1 := lenV_lt hz p k
        have h2 : 256 ^ k ≤ 256 ^ 7 := Nat.pow_le_pow_right (by omega) (by omega)
        have h3 : (256 : Nat) ^ 7 = 72057594037927936 := by decide
        omega
      have HST : Hid (lenV zs p (k + 1) = lenV zs p k * 256 + z) := hst
      clear hst hzz
      generalize lenV zs p k = v at hv HST ⊢
      go_wp2
      go_round
      case rel => exact ⟨k + 1, by omega, by go_num, by rw [HST.out]; exact or_u64 v z (by omega) (by omega)⟩
      case measure => simp [intOf]; omega
    · obtain rfl : k = 8 := by omega
      go_wp2
      go_ret
      exact ⟨rfl, rfl⟩

theorem lenV_succ {zs : List Int} {o k z : Nat} (h : zs.getD (o + k) 0 = (z : Int)) : lenV zs o (k + 1) = lenV zs o k * 256 + z := by
  simp only [lenV]; rw [h]; rfl

theorem be32_row (b p n c : Nat) (zs : List Int) (w : World) (hp : p + 4 ≤ n) (hn : n ≤ 2097152) (row : BRow w (some ⟨b, 0, none⟩) n zs) (hz : Bytes zs) :
    Calls Tryf.prog 42 #[.slice (some ⟨b, 0, none⟩) n c, .int .i64 p] w fun e w' => e = .returned (.int .u32 (lenV zs p 4 : Nat)) ∧ ∃ q, w' = w.drewN q := by
  obtain ⟨z0, b0, e0, h0⟩ := byteAt row hz (i := p) (by omega)
  obtain ⟨z1, b1, e1, h1⟩ := byteAt row hz (i := p + 1) (by omega)
  obtain ⟨z2, b2, e2, h2⟩ := byteAt row hz (i := p + 2) (by omega)
  obtain ⟨z3, b3, e3, h3⟩ := byteAt row hz (i := p + 3) (by omega)
  have e : lenV zs p 4 = z0 * 16777216 + z1 * 65536 + z2 * 256 + z3 := by simp only [lenV, Nat.add_zero, e0, e1, e2, e3]; omega
  rw [e]
  exact be32_any b p n c z0 z1 z2 z3 w hp hn h0 h1 h2 h3 b0 b1 b2 b3

theorem bin_row4 (b o n c : Nat) (zs : List Int) (w : World) (hp : o + 4 ≤ n) (row : BRow w (some ⟨b, 0, none⟩) n zs) (hz : Bytes zs) :
    Calls Tryf.prog 39 #[.agg #[], .slice (some ⟨b, o, none⟩) 4 c] w fun e w' => e = .returned (.int .u32 (lenV zs o 4 : Nat)) ∧ Below w.heap.size w w' := by
  obtain ⟨z0, b0, e0, h0⟩ := byteAt row hz (i := o) (by omega)
  obtain ⟨z1, b1, e1, h1⟩ := byteAt row hz (i := o + 1) (by omega)
  obtain ⟨z2, b2, e2, h2⟩ := byteAt row hz (i := o + 2) (by omega)
  obtain ⟨z3, b3, e3, h3⟩ := byteAt row hz (i := o + 3) (by omega)
  have t0 : lenV zs o 0 = 0 := rfl
  have t1 : lenV zs o 1 = lenV zs o 0 * 256 + z0 := lenV_succ e0
  have t2 : lenV zs o 2 = lenV zs o 1 * 256 + z1 := lenV_succ e1
  have t3 : lenV zs o 3 = lenV zs o 2 * 256 + z2 := lenV_succ e2
  have t4 : lenV zs o 4 = lenV zs o 3 * 256 + z3 := lenV_succ e3
  have e : lenV zs o 4 = z0 * 16777216 + z1 * 65536 + z2 * 256 + z3 := by rw [t4, t3, t2, t1, t0]; omega
  rw [e]
  exact bin32_any b o c z0 z1 z2 z3 w h0 h1 h2 h3 b0 b1 b2 b3

set_option maxHeartbeats 2000000 in
/-- The bytes stand there. -/
theorem uint32_ok (p off en b len cap : Nat) (zs : List Int) (w : World) (h : Rd w p (.slice (some ⟨b, 0, none⟩) len cap) off en .nilIface) (hbp : b ≠ p) (row : BRow w (some ⟨b, 0, none⟩) len zs) (hz : Bytes zs)
    (hel : en ≤ len) (hlc : len ≤ cap) (hen : en ≤ 2097152) (ho : off + 4 ≤ en) :
    Calls Tryf.prog 23 #[.pointer (some ⟨p, 0, none⟩)] w fun e w' => e = .returned (.int .u32 (lenV zs off 4 : Nat)) ∧ Rd w' p (.slice (some ⟨b, 0, none⟩) len cap) (off + 4) en .nilIface ∧ Only p w w' := by
  have hT := take_ok p off en 4 b len cap w h (by omega) (by omega) hen
  rw [cutA_pos b off 4 (by omega)] at hT
  have hnl := fun w a n c => run_neq_slice_nil_any (P := Tryf.prog) w 22 5 a n c 0 0 Tryf.underlying22
  clear h
  go_enter Tryf.func23, Tryf.ntmps23
  go_wp2_with (go_at_call 38; refine hT.mono ?_; rintro e w1 ⟨rfl, hr1, ho1⟩)
  have row1 := row.only ho1 (fun x hx => by cases hx; exact hbp)
  have hN := bin_row4 b off len 4 zs w1 (by omega) row1 hz
  clear row row1 hT
  refine hN.mono ?_
  rintro e w2 ⟨rfl, hb2⟩
  go_wp2
  go_ret
  exact ⟨rfl, (hb2.block p hr1.lt).trans hr1, ho1.trans (Only.of_below hb2)⟩
set_option maxHeartbeats 1000000 in
theorem uint32_short (p off en : Nat) (bv : Value) (w : World) (h : Rd w p bv off en .nilIface) (hoe : off ≤ en) (hs : en < off + 4) (hen : en ≤ 2097152) :
    Calls Tryf.prog 23 #[.pointer (some ⟨p, 0, none⟩)] w fun e w' => e = .returned (.int .u32 0) ∧ ∃ pe, Rd w' p bv off en (faultV pe) ∧ FaultAt w' pe off ∧ pe ≠ p ∧ Only p w w' := by
  have hT := take_past p off en bv ((4 : Nat) : Int) w h hoe hen (by omega)
  have hnl := fun w a n c => run_neq_slice_nil_any (P := Tryf.prog) w 22 5 a n c 0 0 Tryf.underlying22
  clear h
  go_enter Tryf.func23, Tryf.ntmps23
  go_wp2_with (go_at_call 38; refine hT.mono ?_; rintro e w1 ⟨rfl, hr1⟩)
  go_ret
  exact ⟨rfl, hr1⟩
set_option maxHeartbeats 1000000 in
theorem uint32_err (p off en pe : Nat) (bv : Value) (w : World) (h : Rd w p bv off en (faultV pe)) :
    Calls Tryf.prog 23 #[.pointer (some ⟨p, 0, none⟩)] w fun e w' => e = .returned (.int .u32 0) ∧ w = w' := by
  have hT := take_err p off en bv pe ((4 : Nat) : Int) w h
  have hnl := fun w a n c => run_neq_slice_nil_any (P := Tryf.prog) w 22 5 a n c 0 0 Tryf.underlying22
  clear h
  go_enter Tryf.func23, Tryf.ntmps23
  go_wp2_with (go_at_call 38; refine hT.mono ?_; rintro e w1 ⟨rfl, rfl⟩)
  go_ret
  exact ⟨rfl, rfl⟩

theorem bin_row8 (b o n c : Nat) (zs : List Int) (w : World) (hp : o + 8 ≤ n) (row : BRow w (some ⟨b, 0, none⟩) n zs) (hz : Bytes zs) :
    Calls Tryf.prog 40 #[.agg #[], .slice (some ⟨b, o, none⟩) 8 c] w fun e w' => e = .returned (.int .u64 (lenV zs o 8 : Nat)) ∧ Below w.heap.size w w' := by
  obtain ⟨z0, b0, e0, h0⟩ := byteAt row hz (i := o) (by omega)
  obtain ⟨z1, b1, e1, h1⟩ := byteAt row hz (i := o + 1) (by omega)
  obtain ⟨z2, b2, e2, h2⟩ := byteAt row hz (i := o + 2) (by omega)
  obtain ⟨z3, b3, e3, h3⟩ := byteAt row hz (i := o + 3) (by omega)
  obtain ⟨z4, b4, e4, h4⟩ := byteAt row hz (i := o + 4) (by omega)
  obtain ⟨z5, b5, e5, h5⟩ := byteAt row hz (i := o + 5) (by omega)
  obtain ⟨z6, b6, e6, h6⟩ := byteAt row hz (i := o + 6) (by omega)
  obtain ⟨z7, b7, e7, h7⟩ := byteAt row hz (i := o + 7) (by omega)
  have t0 : lenV zs o 0 = 0 := rfl
  have t1 : lenV zs o 1 = lenV zs o 0 * 256 + z0 := lenV_succ e0
  have t2 : lenV zs o 2 = lenV zs o 1 * 256 + z1 := lenV_succ e1
  have t3 : lenV zs o 3 = lenV zs o 2 * 256 + z2 := lenV_succ e2
  have t4 : lenV zs o 4 = lenV zs o 3 * 256 + z3 := lenV_succ e3
  have t5 : lenV zs o 5 = lenV zs o 4 * 256 + z4 := lenV_succ e4
  have t6 : lenV zs o 6 = lenV zs o 5 * 256 + z5 := lenV_succ e5
  have t7 : lenV zs o 7 = lenV zs o 6 * 256 + z6 := lenV_succ e6
  have t8 : lenV zs o 8 = lenV zs o 7 * 256 + z7 := lenV_succ e7
  have e : lenV zs o 8 = z0 * 72057594037927936 + z1 * 281474976710656 + z2 * 1099511627776 + z3 * 4294967296 + z4 * 16777216 + z5 * 65536 + z6 * 256 + z7 := by rw [t8, t7, t6, t5, t4, t3, t2, t1, t0]; omega
  rw [e]
  exact bin64_any b o c z0 z1 z2 z3 z4 z5 z6 z7 w h0 h1 h2 h3 h4 h5 h6 h7 b0 b1 b2 b3 b4 b5 b6 b7

set_option maxHeartbeats 2000000 in
/-- The bytes stand there. -/
theorem uint64_ok (p off en b len cap : Nat) (zs : List Int) (w : World) (h : Rd w p (.slice (some ⟨b, 0, none⟩) len cap) off en .nilIface) (hbp : b ≠ p) (row : BRow w (some ⟨b, 0, none⟩) len zs) (hz : Bytes zs)
    (hel : en ≤ len) (hlc : len ≤ cap) (hen : en ≤ 2097152) (ho : off + 8 ≤ en) :
    Calls Tryf.prog 24 #[.pointer (some ⟨p, 0, none⟩)] w fun e w' => e = .returned (.int .u64 (lenV zs off 8 : Nat)) ∧ Rd w' p (.slice (some ⟨b, 0, none⟩) len cap) (off + 8) en .nilIface ∧ Only p w w' := by
  have hT := take_ok p off en 8 b len cap w h (by omega) (by omega) hen
  rw [cutA_pos b off 8 (by omega)] at hT
  have hnl := fun w a n c => run_neq_slice_nil_any (P := Tryf.prog) w 22 5 a n c 0 0 Tryf.underlying22
  clear h
  go_enter Tryf.func24, Tryf.ntmps24
  go_wp2_with (go_at_call 38; refine hT.mono ?_; rintro e w1 ⟨rfl, hr1, ho1⟩)
  have row1 := row.only ho1 (fun x hx => by cases hx; exact hbp)
  have hN := bin_row8 b off len 8 zs w1 (by omega) row1 hz
  clear row row1 hT
  refine hN.mono ?_
  rintro e w2 ⟨rfl, hb2⟩
  go_wp2
  go_ret
  exact ⟨rfl, (hb2.block p hr1.lt).trans hr1, ho1.trans (Only.of_below hb2)⟩
set_option maxHeartbeats 1000000 in
theorem uint64_short (p off en : Nat) (bv : Value) (w : World) (h : Rd w p bv off en .nilIface) (hoe : off ≤ en) (hs : en < off + 8) (hen : en ≤ 2097152) :
    Calls Tryf.prog 24 #[.pointer (some ⟨p, 0, none⟩)] w fun e w' => e = .returned (.int .u64 0) ∧ ∃ pe, Rd w' p bv off en (faultV pe) ∧ FaultAt w' pe off ∧ pe ≠ p ∧ Only p w w' := by
  have hT := take_past p off en bv ((8 : Nat) : Int) w h hoe hen (by omega)
  have hnl := fun w a n c => run_neq_slice_nil_any (P := Tryf.prog) w 22 5 a n c 0 0 Tryf.underlying22
  clear h
  go_enter Tryf.func24, Tryf.ntmps24
  go_wp2_with (go_at_call 38; refine hT.mono ?_; rintro e w1 ⟨rfl, hr1⟩)
  go_ret
  exact ⟨rfl, hr1⟩
set_option maxHeartbeats 1000000 in
theorem uint64_err (p off en pe : Nat) (bv : Value) (w : World) (h : Rd w p bv off en (faultV pe)) :
    Calls Tryf.prog 24 #[.pointer (some ⟨p, 0, none⟩)] w fun e w' => e = .returned (.int .u64 0) ∧ w = w' := by
  have hT := take_err p off en bv pe ((8 : Nat) : Int) w h
  have hnl := fun w a n c => run_neq_slice_nil_any (P := Tryf.prog) w 22 5 a n c 0 0 Tryf.underlying22
  clear h
  go_enter Tryf.func24, Tryf.ntmps24
  go_wp2_with (go_at_call 38; refine hT.mono ?_; rintro e w1 ⟨rfl, rfl⟩)
  go_ret
  exact ⟨rfl, rfl⟩

set_option maxHeartbeats 1000000 in
theorem fixed_any (p m c : Nat) (a : Option Addr) (n : Int) (w : World) (S : World → Prop) (hT : Calls Tryf.prog 38 #[.pointer (some ⟨p, 0, none⟩), .int .i64 n] w fun e w' => e = .returned (.slice a m c) ∧ S w') :
    Calls Tryf.prog 21 #[.pointer (some ⟨p, 0, none⟩), .int .i64 n] w fun e w' => e = .returned (.slice a m c) ∧ S w' := by
  go_enter Tryf.func21, Tryf.ntmps21
  go_wp2_with (go_at_call 38; refine hT.mono ?_; rintro e w1 ⟨rfl, hR⟩)
  go_ret
  exact ⟨rfl, hR⟩

set_option maxHeartbeats 1000000 in
theorem vector_err (p off en s pe g : Nat) (cb : Array Value) (bv : Value) (w : World) (h : Rd w p bv off en (faultV pe)) :
    Calls Tryf.prog 44 #[.pointer (some ⟨p, 0, none⟩), .int .i64 s, .func (.func g) #[] cb] w fun e w' => e = .returned (.tuple #[]) ∧ w = w' := by
  obtain ⟨c0, c1, c2, c3⟩ := h.cells
  have hT := take_err p off en bv pe s w h
  clear h
  go_enter Tryf.func44, Tryf.ntmps44
  go_wp2_with (go_at_call 38; refine hT.mono ?_; rintro e w1 ⟨rfl, rfl⟩)
  exact bodyPost_ret (v := .tuple #[]) (by simp [results, Tryf.results44]) rfl ⟨rfl, rfl⟩

set_option maxHeartbeats 1000000 in
theorem vector16_any (p g : Nat) (cb : Array Value) (w : World) (R : Ending → World → Prop)
    (hc : Calls Tryf.prog 44 #[.pointer (some ⟨p, 0, none⟩), .int .i64 (2 : Nat), .func (.func g) #[] cb] w fun e w' => e = .returned (.tuple #[]) ∧ R e w') :
    Calls Tryf.prog 45 #[.pointer (some ⟨p, 0, none⟩), .func (.func g) #[] cb] w fun e w' => e = .returned (.tuple #[]) ∧ R e w' := by
  go_enter Tryf.func45, Tryf.ntmps45
  go_wp2_with (go_at_call 44; refine hc.mono ?_; rintro e w' ⟨rfl, hR⟩)
  go_end0
  exact ⟨rfl, hR⟩
end Go.Proofs.Qxb6604610aFmt
