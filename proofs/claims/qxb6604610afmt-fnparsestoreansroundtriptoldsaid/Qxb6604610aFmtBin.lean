/-
  binary.BigEndian.Uint32 (39), Uint64 (40); be32_b1 (42), be64_b1 (43).
-/
import Derived.Test.Qxb6604610aFmtOpaque
namespace Go.Proofs.Qxb6604610aFmt
open Go.RowKit Go.Extern.Stop Go.Stop Go.Extern

theorem or_lo (lo hi i M : Nat) (hM : M = 2 ^ i) (h : lo < M) : (lo ||| hi * M) = hi * M + lo := by
  subst hM
  rw [Nat.or_comm]
  have := Nat.two_pow_add_eq_or_of_lt (i := i) h hi
  rw [Nat.mul_comm] at this
  exact this.symm
theorem or_hi (lo hi i M : Nat) (hM : M = 2 ^ i) (h : lo < M) : (hi * M ||| lo) = hi * M + lo := by
  rw [Nat.or_comm]; exact or_lo lo hi i M hM h
theorem val32 (z0 z1 z2 z3 : Nat) (b0 : z0 ≤ 255) (b1 : z1 ≤ 255) (b2 : z2 ≤ 255) (b3 : z3 ≤ 255) :
    bits .or .u32 (bits .or .u32 (bits .or .u32 (z3 : Int) ((z2 : Int) * 256)) ((z1 : Int) * 65536)) ((z0 : Int) * 16777216) = ((z0 * 16777216 + z1 * 65536 + z2 * 256 + z3 : Nat) : Int) := by
  rw [show (z2 : Int) * 256 = ((z2 * 256 : Nat) : Int) by omega, u32_or_nat z3 (z2 * 256) (by omega) (by omega), or_lo z3 z2 8 256 rfl (by omega),
    show (z1 : Int) * 65536 = ((z1 * 65536 : Nat) : Int) by omega, u32_or_nat (z2 * 256 + z3) (z1 * 65536) (by omega) (by omega), or_lo (z2 * 256 + z3) z1 16 65536 rfl (by omega),
    show (z0 : Int) * 16777216 = ((z0 * 16777216 : Nat) : Int) by omega, u32_or_nat (z1 * 65536 + (z2 * 256 + z3)) (z0 * 16777216) (by omega) (by omega), or_lo (z1 * 65536 + (z2 * 256 + z3)) z0 24 16777216 rfl (by omega)]
  omega
theorem val32' (z0 z1 z2 z3 : Nat) (b0 : z0 ≤ 255) (b1 : z1 ≤ 255) (b2 : z2 ≤ 255) (b3 : z3 ≤ 255) :
    bits .or .u32 (bits .or .u32 (bits .or .u32 ((z0 : Int) * 16777216) ((z1 : Int) * 65536)) ((z2 : Int) * 256)) (z3 : Int) = ((z0 * 16777216 + z1 * 65536 + z2 * 256 + z3 : Nat) : Int) := by
  rw [show (z0 : Int) * 16777216 = ((z0 * 16777216 : Nat) : Int) by omega, show (z1 : Int) * 65536 = ((z1 * 65536 : Nat) : Int) by omega, u32_or_nat (z0 * 16777216) (z1 * 65536) (by omega) (by omega), or_hi (z1 * 65536) z0 24 16777216 rfl (by omega),
    show z0 * 16777216 + z1 * 65536 = (z0 * 256 + z1) * 65536 by omega, show (z2 : Int) * 256 = ((z2 * 256 : Nat) : Int) by omega, u32_or_nat ((z0 * 256 + z1) * 65536) (z2 * 256) (by omega) (by omega), or_hi (z2 * 256) (z0 * 256 + z1) 16 65536 rfl (by omega),
    show (z0 * 256 + z1) * 65536 + z2 * 256 = ((z0 * 256 + z1) * 256 + z2) * 256 by omega, u32_or_nat (((z0 * 256 + z1) * 256 + z2) * 256) z3 (by omega) (by omega), or_hi z3 ((z0 * 256 + z1) * 256 + z2) 8 256 rfl (by omega)]
theorem val64 (z0 z1 z2 z3 z4 z5 z6 z7 : Nat) (b0 : z0 ≤ 255) (b1 : z1 ≤ 255) (b2 : z2 ≤ 255) (b3 : z3 ≤ 255) (b4 : z4 ≤ 255) (b5 : z5 ≤ 255) (b6 : z6 ≤ 255) (b7 : z7 ≤ 255) :
    bits .or .u64 (bits .or .u64 (bits .or .u64 (bits .or .u64 (bits .or .u64 (bits .or .u64 (bits .or .u64 ((z7 : Int)) ((z6 : Int) * 256)) ((z5 : Int) * 65536)) ((z4 : Int) * 16777216)) ((z3 : Int) * 4294967296)) ((z2 : Int) * 1099511627776)) ((z1 : Int) * 281474976710656)) ((z0 : Int) * 72057594037927936) = ((z0 * 72057594037927936 + z1 * 281474976710656 + z2 * 1099511627776 + z3 * 4294967296 + z4 * 16777216 + z5 * 65536 + z6 * 256 + z7 : Nat) : Int) := by
  rw [show (z6 : Int) * 256 = ((z6 * 256 : Nat) : Int) by omega,
    u64_or_nat (z7) (z6 * 256) (by omega) (by omega),
    or_lo (z7) z6 8 256 rfl (by omega),
    show (z5 : Int) * 65536 = ((z5 * 65536 : Nat) : Int) by omega,
    u64_or_nat (z6 * 256 + (z7)) (z5 * 65536) (by omega) (by omega),
    or_lo (z6 * 256 + (z7)) z5 16 65536 rfl (by omega),
    show (z4 : Int) * 16777216 = ((z4 * 16777216 : Nat) : Int) by omega,
    u64_or_nat (z5 * 65536 + (z6 * 256 + (z7))) (z4 * 16777216) (by omega) (by omega),
    or_lo (z5 * 65536 + (z6 * 256 + (z7))) z4 24 16777216 rfl (by omega),
    show (z3 : Int) * 4294967296 = ((z3 * 4294967296 : Nat) : Int) by omega,
    u64_or_nat (z4 * 16777216 + (z5 * 65536 + (z6 * 256 + (z7)))) (z3 * 4294967296) (by omega) (by omega),
    or_lo (z4 * 16777216 + (z5 * 65536 + (z6 * 256 + (z7)))) z3 32 4294967296 rfl (by omega),
    show (z2 : Int) * 1099511627776 = ((z2 * 1099511627776 : Nat) : Int) by omega,
    u64_or_nat (z3 * 4294967296 + (z4 * 16777216 + (z5 * 65536 + (z6 * 256 + (z7))))) (z2 * 1099511627776) (by omega) (by omega),
    or_lo (z3 * 4294967296 + (z4 * 16777216 + (z5 * 65536 + (z6 * 256 + (z7))))) z2 40 1099511627776 rfl (by omega),
    show (z1 : Int) * 281474976710656 = ((z1 * 281474976710656 : Nat) : Int) by omega,
    u64_or_nat (z2 * 1099511627776 + (z3 * 4294967296 + (z4 * 16777216 + (z5 * 65536 + (z6 * 256 + (z7)))))) (z1 * 281474976710656) (by omega) (by omega),
    or_lo (z2 * 1099511627776 + (z3 * 4294967296 + (z4 * 16777216 + (z5 * 65536 + (z6 * 256 + (z7)))))) z1 48 281474976710656 rfl (by omega),
    show (z0 : Int) * 72057594037927936 = ((z0 * 72057594037927936 : Nat) : Int) by omega,
    u64_or_nat (z1 * 281474976710656 + (z2 * 1099511627776 + (z3 * 4294967296 + (z4 * 16777216 + (z5 * 65536 + (z6 * 256 + (z7))))))) (z0 * 72057594037927936) (by omega) (by omega),
    or_lo (z1 * 281474976710656 + (z2 * 1099511627776 + (z3 * 4294967296 + (z4 * 16777216 + (z5 * 65536 + (z6 * 256 + (z7))))))) z0 56 72057594037927936 rfl (by omega)]
  omega

theorem ret_num {k : IntKind} {a b : Int} (h : a = b) : Ending.returned (.int k a) = .returned (.int k b) := by rw [h]

set_option maxHeartbeats 2000000 in
theorem bin32_any (b o c : Nat) (z0 z1 z2 z3 : Nat) (w : World) (h0 : w.cell? ⟨b, o, none⟩ = some (.int .u8 z0)) (h1 : w.cell? ⟨b, o + 1, none⟩ = some (.int .u8 z1)) (h2 : w.cell? ⟨b, o + 2, none⟩ = some (.int .u8 z2)) (h3 : w.cell? ⟨b, o + 3, none⟩ = some (.int .u8 z3))
    (b0 : z0 ≤ 255) (b1 : z1 ≤ 255) (b2 : z2 ≤ 255) (b3 : z3 ≤ 255) :
    Calls Tryf.prog 39 #[.agg #[], .slice (some ⟨b, o, none⟩) 4 c] w fun e w' => e = .returned (.int .u32 ((z0 * 16777216 + z1 * 65536 + z2 * 256 + z3 : Nat) : Int)) ∧ Below w.heap.size w w' := by
  have hl := World.block_lt_of_cell? _ _ h0
  go_enter Tryf.func39, Tryf.ntmps39
  go_wp2
  go_quiet (fail)
  go_wp2
  go_ret
  exact ⟨ret_num (val32 z0 z1 z2 z3 b0 b1 b2 b3), below_drewN ((Below.refl _ _).alloc (Nat.le_refl _) _) _⟩
set_option maxHeartbeats 2000000 in
theorem be32_any (b p n c : Nat) (z0 z1 z2 z3 : Nat) (w : World) (hp : p + 4 ≤ n) (hn : n ≤ 2097152) (h0 : w.cell? ⟨b, p, none⟩ = some (.int .u8 z0)) (h1 : w.cell? ⟨b, p + 1, none⟩ = some (.int .u8 z1)) (h2 : w.cell? ⟨b, p + 2, none⟩ = some (.int .u8 z2)) (h3 : w.cell? ⟨b, p + 3, none⟩ = some (.int .u8 z3))
    (b0 : z0 ≤ 255) (b1 : z1 ≤ 255) (b2 : z2 ≤ 255) (b3 : z3 ≤ 255) :
    Calls Tryf.prog 42 #[.slice (some ⟨b, 0, none⟩) n c, .int .i64 p] w fun e w' => e = .returned (.int .u32 ((z0 * 16777216 + z1 * 65536 + z2 * 256 + z3 : Nat) : Int)) ∧ ∃ q, w' = w.drewN q := by
  have hi0 : (p : Int) < (n : Int) := by omega
  have hi1 : (p : Int) + 1 < (n : Int) := by omega
  have hi2 : (p : Int) + 2 < (n : Int) := by omega
  have hi3 : (p : Int) + 3 < (n : Int) := by omega
  go_enter Tryf.func42, Tryf.ntmps42
  go_wp2
  go_quiet (fail)
  go_wp2
  go_ret
  exact ⟨ret_num (val32' z0 z1 z2 z3 b0 b1 b2 b3), _, rfl⟩

set_option maxHeartbeats 4000000 in
theorem bin64_any (b o c : Nat) (z0 z1 z2 z3 z4 z5 z6 z7 : Nat) (w : World) (h0 : w.cell? ⟨b, o, none⟩ = some (.int .u8 z0)) (h1 : w.cell? ⟨b, o + 1, none⟩ = some (.int .u8 z1)) (h2 : w.cell? ⟨b, o + 2, none⟩ = some (.int .u8 z2)) (h3 : w.cell? ⟨b, o + 3, none⟩ = some (.int .u8 z3)) (h4 : w.cell? ⟨b, o + 4, none⟩ = some (.int .u8 z4)) (h5 : w.cell? ⟨b, o + 5, none⟩ = some (.int .u8 z5)) (h6 : w.cell? ⟨b, o + 6, none⟩ = some (.int .u8 z6)) (h7 : w.cell? ⟨b, o + 7, none⟩ = some (.int .u8 z7))
    (b0 : z0 ≤ 255) (b1 : z1 ≤ 255) (b2 : z2 ≤ 255) (b3 : z3 ≤ 255) (b4 : z4 ≤ 255) (b5 : z5 ≤ 255) (b6 : z6 ≤ 255) (b7 : z7 ≤ 255) :
    Calls Tryf.prog 40 #[.agg #[], .slice (some ⟨b, o, none⟩) 8 c] w fun e w' => e = .returned (.int .u64 ((z0 * 72057594037927936 + z1 * 281474976710656 + z2 * 1099511627776 + z3 * 4294967296 + z4 * 16777216 + z5 * 65536 + z6 * 256 + z7 : Nat) : Int)) ∧ Below w.heap.size w w' := by
  have hl := World.block_lt_of_cell? _ _ h0
  go_enter Tryf.func40, Tryf.ntmps40
  go_wp2
  go_quiet (fail)
  go_wp2
  go_ret
  exact ⟨ret_num (val64 z0 z1 z2 z3 z4 z5 z6 z7 b0 b1 b2 b3 b4 b5 b6 b7), below_drewN ((Below.refl _ _).alloc (Nat.le_refl _) _) _⟩
end Go.Proofs.Qxb6604610aFmt
