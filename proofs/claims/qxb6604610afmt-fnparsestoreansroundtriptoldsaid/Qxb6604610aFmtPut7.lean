/-
  putBE32_b1 (32), putBE64_b1 (33).
-/
import Derived.Test.Qxb6604610aFmtPlain7
import Derived.Test.Qxb6604610aFmtRowsT
namespace Go.Proofs.Qxb6604610aFmt
open Go.RowKit Go.Extern.Stop Go.Stop Go.Extern

theorem Filled.put {w : World} {B n k : Nat} {zs : List Int} (h : Filled w B n k zs) (hk : k < n) (b : Int) (hb : zs.getD k 0 = b) : Filled (w.setCell ⟨B, k, none⟩ (.int .u8 b)) B n (k + 1) zs := hb ▸ h.step hk
theorem Filled.lt {w : World} {B n k : Nat} {zs : List Int} (h : Filled w B n k zs) : B < w.heap.size := by
  obtain ⟨cur, hg, _⟩ := h
  exact (Array.getElem?_eq_some_iff.1 hg).1

theorem below_set {B : Nat} {a w : World} (h : Below B a w) (j : Nat) (u : Value) : Below B a (w.setCell ⟨B, j, none⟩ u) := h.setCell (Nat.le_refl _) u

set_option maxHeartbeats 1000000 in
theorem put32 (B n k v : Nat) (zs : List Int) (w : World) (h : Filled w B n k zs) (hk : k + 4 ≤ n) (hn : n ≤ 2097152) (hv : v < 4294967296) (hz : ∀ j, j < 4 → zs.getD (k + j) 0 = (be v 4).getD j 0) :
    Calls Tryf.prog 32 #[.slice (some ⟨B, 0, none⟩) n n, .int .i64 k, .int .u32 v] w fun e w' => e = .returned (.tuple #[]) ∧ Filled w' B n (k + 4) zs ∧ Below B w w' := by
  obtain ⟨e0, e1, e2, e3⟩ := be_at4 v
  have z0 := (hz 0 (by omega)).trans e0
  have z1 := (hz 1 (by omega)).trans e1
  have z2 := (hz 2 (by omega)).trans e2
  have z3 := (hz 3 (by omega)).trans e3
  obtain ⟨b0, h0⟩ : ∃ b : Int, b = (v : Int) / 16777216 := ⟨_, rfl⟩
  obtain ⟨b1, h1⟩ : ∃ b : Int, b = (v : Int) / 65536 % 256 := ⟨_, rfl⟩
  obtain ⟨b2, h2⟩ : ∃ b : Int, b = (v : Int) / 256 % 256 := ⟨_, rfl⟩
  obtain ⟨b3, h3⟩ : ∃ b : Int, b = (v : Int) % 256 := ⟨_, rfl⟩
  have F1 := h.put (by omega) b0 (by rw [← Nat.add_zero k, z0, h0]; omega)
  have F2 := F1.put (by omega) b1 (by rw [z1, h1]; omega)
  have F3 := F2.put (by omega) b2 (by rw [z2, h2]; omega)
  have F4 := F3.put (by omega) b3 (by rw [z3, h3]; omega)
  have bel : Below B w ((((w.setCell ⟨B, k, none⟩ (.int .u8 b0)).setCell ⟨B, k + 1, none⟩ (.int .u8 b1)).setCell ⟨B, k + 2, none⟩ (.int .u8 b2)).setCell ⟨B, k + 3, none⟩ (.int .u8 b3)) :=
    below_set (below_set (below_set (below_set (Below.refl _ w) _ _) _ _) _ _) _ _
  obtain ⟨v0, c0⟩ := h.cell (by omega)
  obtain ⟨v1, c1⟩ := F1.cell (by omega)
  obtain ⟨v2, c2⟩ := F2.cell (by omega)
  obtain ⟨v3, c3⟩ := F3.cell (by omega)
  have f0 := h.free k
  have f1 := F1.free (k + 1)
  have f2 := F2.free (k + 2)
  have f3 := F3.free (k + 3)
  have i0 : (k : Int) < (n : Int) := by omega
  have i1 : (k : Int) + 1 < (n : Int) := by omega
  have i2 : (k : Int) + 2 < (n : Int) := by omega
  have i3 : (k : Int) + 3 < (n : Int) := by omega
  rw [h0] at c1 f1
  rw [h0, h1] at c2 f2
  rw [h0, h1, h2] at c3 f3
  rw [h0, h1, h2, h3] at F4 bel
  have HF : Hid _ := F4
  have HB : Hid _ := bel
  clear F1 F2 F3 F4 bel h e0 e1 e2 e3 z0 z1 z2 z3 hz h0 h1 h2 h3 b0 b1 b2 b3
  go_enter Tryf.func32, Tryf.ntmps32
  go_wp2_with fail
  go_end0
  exact ⟨rfl, HF.out, HB.out⟩

set_option maxHeartbeats 2000000 in
theorem put64 (B n k v : Nat) (zs : List Int) (w : World) (h : Filled w B n k zs) (hk : k + 8 ≤ n) (hn : n ≤ 2097152) (_hv : v < 18446744073709551616) (hz : ∀ j, j < 8 → zs.getD (k + j) 0 = (be v 8).getD j 0) :
    Calls Tryf.prog 33 #[.slice (some ⟨B, 0, none⟩) n n, .int .i64 k, .int .u64 v] w fun e w' => e = .returned (.tuple #[]) ∧ Filled w' B n (k + 8) zs ∧ Below B w w' := by
  have HZ : Hid _ := hz
  clear hz
  go_enter Tryf.func33, Tryf.ntmps33
  go_wp2_with fail
  go_loopg [6] 9 (fun kx i wr => ∃ j : Nat, j ≤ 8 ∧ 8 - j < kx ∧ i = .int .i64 j ∧ Filled wr B n (k + j) zs ∧ Below B w wr)
  case atStart => exact ⟨0, by omega, by omega, rfl, h, Below.refl _ _⟩
  case round =>
    obtain ⟨j, hj, hjx, rfl, hf, hb⟩ := hrel
    clear h
    by_cases hlt : j < 8
    · have hzj := (HZ.out j hlt).trans (be_at v 8 j hlt)
      obtain ⟨v0, c0⟩ := hf.cell (by omega)
      have f0 := hf.free (k + j)
      have i0 : (k : Int) + (j : Int) < (n : Int) := by omega
      have i1 : (j : Int) < 8 := by omega
      have i2 : (0 : Int) ≤ 56 - 8 * (j : Int) := by omega
      have HFI : Hid _ := hf
      have HBI : Hid _ := hb
      have HZJ : Hid _ := hzj
      clear hf hb hzj
      go_wp2_with fail
      have e : zs.getD (k + j) 0 = (v : Int) / 2 ^ (56 - 8 * j) % 256 := by
        rw [HZJ.out, show 256 = 2 ^ 8 from rfl, ← Nat.pow_mul, show 8 * (8 - 1 - j) = 56 - 8 * j by omega]
        simp
      go_roundg (8 - j)
      case rel => exact ⟨j + 1, by omega, by omega, by go_num, Filled.put HFI.out (by omega) _ e, below_set HBI.out _ _⟩
      case measure => omega
    · obtain rfl : j = 8 := by omega
      go_wp2_with fail
      go_end0
      exact ⟨rfl, hf, hb⟩
end Go.Proofs.Qxb6604610aFmt
