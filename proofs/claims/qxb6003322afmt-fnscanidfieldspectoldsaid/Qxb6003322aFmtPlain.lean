/-
  Digit strings and their values.
-/
import Derived.Test.Qxb6003322aFmtScan
namespace Go.Proofs.Qxb6003322aFmt
open Go.RowKit Go.Extern.Stop Go.Stop Go.Extern

/-- k digits lie from i on. -/
def Digs (zs : List Int) (i k : Nat) : Prop := ∀ j, j < k → isDig (zs.getD (i + j) 0)
theorem Digs.sub {zs : List Int} {i k a b : Nat} (h : Digs zs i k) (hab : a + b ≤ k) : Digs zs (i + a) b := fun j hj => by
  have := h (a + j) (by omega)
  rwa [← Nat.add_assoc] at this
theorem Digs.less {zs : List Int} {i k a : Nat} (h : Digs zs i k) (hab : a ≤ k) : Digs zs i a := fun j hj => h j (by omega)
theorem dv_split (zs : List Int) (i a b : Nat) : dv zs i (a + b) = dv zs i a * 10 ^ b + dv zs (i + a) b := by
  induction b with
  | zero => simp [dv]
  | succ m ih =>
    rw [← Nat.add_assoc, dv, ih, dv, Nat.pow_succ, ← Nat.mul_assoc, show i + (a + m) = i + a + m by omega]
    generalize dv zs i a * 10 ^ m = A
    omega
theorem dv_lt {zs : List Int} {i k : Nat} (h : Digs zs i k) : dv zs i k < 10 ^ k := by
  induction k with
  | zero => simp [dv]
  | succ m ih =>
    have h1 := ih (h.less (by omega))
    have h2 := h m (by omega)
    unfold isDig at h2
    rw [dv, Nat.pow_succ]
    omega
theorem dv_zero {zs : List Int} {i k : Nat} (h : ∀ j, j < k → zs.getD (i + j) 0 = 48) : dv zs i k = 0 := by
  induction k with
  | zero => rfl
  | succ m ih => rw [dv, ih (fun j hj => h j (by omega)), h m (by omega)]; rfl
theorem dv_one (zs : List Int) (i : Nat) : dv zs i 1 = (zs.getD i 0 - 48).toNat := by simp [dv]
/-- The first digit and the rest. -/
theorem dv_head (zs : List Int) (i k : Nat) : dv zs i (k + 1) = (zs.getD i 0 - 48).toNat * 10 ^ k + dv zs (i + 1) k := by
  rw [Nat.add_comm k 1, dv_split, dv_one]
theorem dv_ge {zs : List Int} {i k : Nat} (h : Digs zs i (k + 1)) (h0 : zs.getD i 0 ≠ 48) : 10 ^ k ≤ dv zs i (k + 1) := by
  have h1 := h 0 (by omega)
  unfold isDig at h1
  rw [Nat.add_zero] at h1
  rw [dv_head]
  have : 1 ≤ (zs.getD i 0 - 48).toNat := by omega
  have := Nat.mul_le_mul_right (10 ^ k) this
  omega
/-- The digit at t from the right. -/
theorem dv_digit {zs : List Int} {i k t : Nat} (h : Digs zs i k) (ht : t < k) : dv zs i k / 10 ^ t % 10 = (zs.getD (i + (k - 1 - t)) 0 - 48).toNat := by
  have e : k = (k - 1 - t + 1) + t := by omega
  have h1 : dv zs i k = dv zs i (k - 1 - t + 1) * 10 ^ t + dv zs (i + (k - 1 - t + 1)) t := by
    conv => lhs; rw [e]
    exact dv_split zs i _ t
  have h2 := dv_lt (h.sub (a := k - 1 - t + 1) (b := t) (by omega))
  have h3 : dv zs i k / 10 ^ t = dv zs i (k - 1 - t + 1) := by
    rw [h1, Nat.mul_comm, Nat.mul_add_div (Nat.pow_pos (by omega)), Nat.div_eq_of_lt h2, Nat.add_zero]
  rw [h3, dv]
  have h4 := h (k - 1 - t) (by omega)
  unfold isDig at h4
  omega

/-- The greatest id, digit by digit. -/
def top19 : List Int := [57, 50, 50, 51, 51, 55, 50, 48, 51, 54, 56, 53, 52, 55, 55, 53, 56, 48, 55]
theorem top_digs : Digs top19 0 19 := by
  intro j hj
  rw [Nat.zero_add]
  unfold isDig top19
  have : ∀ j : Fin 19, 48 ≤ ([57, 50, 50, 51, 51, 55, 50, 48, 51, 54, 56, 53, 52, 55, 55, 53, 56, 48, 55] : List Int).getD j.1 0 ∧ ([57, 50, 50, 51, 51, 55, 50, 48, 51, 54, 56, 53, 52, 55, 55, 53, 56, 48, 55] : List Int).getD j.1 0 ≤ 57 := by decide
  exact this ⟨j, hj⟩
theorem top_val : dv top19 0 19 = 9223372036854775807 := by decide
theorem dv_congr {zs ys : List Int} {i c k : Nat} (h : ∀ j, j < k → zs.getD (i + j) 0 = ys.getD (c + j) 0) : dv zs i k = dv ys c k := by
  induction k with
  | zero => rfl
  | succ m ih => rw [dv, dv, ih (fun j hj => h j (by omega)), h m (by omega)]
/-- The first digit that differs decides. -/
theorem dv_less {zs ys : List Int} {i c k q : Nat} (hz : Digs zs i k) (hy : Digs ys c k) (hq : q < k) (he : ∀ j, j < q → zs.getD (i + j) 0 = ys.getD (c + j) 0) (hl : zs.getD (i + q) 0 < ys.getD (c + q) 0) : dv zs i k < dv ys c k := by
  have e : k = q + (k - 1 - q + 1) := by omega
  have h1 : dv zs i k = dv zs i q * 10 ^ (k - 1 - q + 1) + dv zs (i + q) (k - 1 - q + 1) := by
    conv => lhs; rw [e]
    exact dv_split zs i q _
  have h2 : dv ys c k = dv ys c q * 10 ^ (k - 1 - q + 1) + dv ys (c + q) (k - 1 - q + 1) := by
    conv => lhs; rw [e]
    exact dv_split ys c q _
  rw [h1, h2, dv_congr he, dv_head, dv_head]
  have h3 := dv_lt (hz.sub (a := q + 1) (b := k - 1 - q) (by omega))
  rw [← Nat.add_assoc] at h3
  have h4 := hz q hq
  have h5 := hy q hq
  unfold isDig at h4 h5
  have h6 : (zs.getD (i + q) 0 - 48).toNat + 1 ≤ (ys.getD (c + q) 0 - 48).toNat := by omega
  have h7 := Nat.mul_le_mul_right (10 ^ (k - 1 - q)) h6
  rw [Nat.add_mul, Nat.one_mul] at h7
  omega
end Go.Proofs.Qxb6003322aFmt
