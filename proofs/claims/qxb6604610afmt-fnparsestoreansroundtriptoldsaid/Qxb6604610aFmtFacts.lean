/-
  Plain facts for the walk of storeAnsModel (27).
-/
import Derived.Test.Qxb6604610aFmtZZ
import Derived.Test.Qxb6604610aFmtExact
namespace Go.Proofs.Qxb6604610aFmt
open Go.RowKit Go.Extern.Stop Go.Stop Go.Extern

theorem or_i64_nat (a b : Nat) (ha : a < 1048576) (hb : b < 1048576) : bits .or .i64 (a : Int) (b : Int) = ((a ||| b : Nat) : Int) := by
  have hx : a ||| b < 2 ^ 20 := Nat.or_lt_two_pow (by omega) (by omega)
  show IntKind.i64.wrap ((BitVec.ofInt 64 (a : Int) ||| BitVec.ofInt 64 (b : Int)).toNat : Int) = _
  rw [BitVec.toNat_or, ofInt_u64 a (by omega), ofInt_u64 b (by omega)]
  exact wrap_small _ (by omega) (by omega)
theorem or_i64 (x z : Nat) (hx : x ≤ 255) (hz : z ≤ 255) : bits .or .i64 ((x : Int) * 256) (z : Int) = ((x * 256 + z : Nat) : Int) := by
  rw [show (x : Int) * 256 = ((x * 256 : Nat) : Int) by omega, or_i64_nat (x * 256) z (by omega) (by omega), or_hi z x 8 256 rfl (by omega)]
theorem lenV_2 {zs : List Int} {o x z : Nat} (h0 : zs.getD o 0 = (x : Int)) (h1 : zs.getD (o + 1) 0 = (z : Int)) : lenV zs o 2 = x * 256 + z := by
  simp only [lenV, Nat.add_zero, h0, h1]; omega
/-- Two bytes as one number, as the walk meets them. -/
theorem two_at {w : World} {G n o : Nat} {zs : List Int} (row : BRow w (some ⟨G, 0, none⟩) n zs) (hz : Bytes zs) (h : o + 2 ≤ n) :
    ∃ z0 z1 : Nat, z0 ≤ 255 ∧ z1 ≤ 255 ∧ w.cell? ⟨G, o, none⟩ = some (.int .u8 z0) ∧ w.cell? ⟨G, o + 1, none⟩ = some (.int .u8 z1) ∧ bits .or .i64 ((z0 : Int) * 256) (z1 : Int) = (lenV zs o 2 : Nat) := by
  obtain ⟨z0, b0, e0, g0⟩ := byteAt row hz (i := o) (by omega)
  obtain ⟨z1, b1, e1, g1⟩ := byteAt row hz (i := o + 1) (by omega)
  exact ⟨z0, z1, b0, b1, g0, g1, by rw [or_i64 z0 z1 b0 b1, lenV_2 e0 e1]⟩

theorem flatK_length (zs : List Int) (rvs : Nat → Value) (m : Nat) : (flatK zs rvs m).length = m * 3 := by
  induction m with
  | zero => rfl
  | succ j ih => simp [flatK, ih]; omega
theorem flatK_at (zs : List Int) (rvs : Nat → Value) {m k : Nat} (h : k < m) :
    (flatK zs rvs m)[k * 3]? = some (.int .u32 (lenV zs (posK zs k) 4 : Nat)) ∧ (flatK zs rvs m)[k * 3 + 1]? = some (.int .u64 (lenV zs (posK zs k + 4) 8 : Nat)) ∧ (flatK zs rvs m)[k * 3 + 2]? = some (rvs k) := by
  induction m with
  | zero => omega
  | succ j ih =>
    have hl := flatK_length zs rvs j
    by_cases e : k = j
    · subst e
      rw [flatK]
      refine ⟨?_, ?_, ?_⟩
      · rw [List.getElem?_append_right (by omega), hl, Nat.sub_self]; rfl
      · rw [List.getElem?_append_right (by omega), hl, show k * 3 + 1 - k * 3 = 1 by omega]; rfl
      · rw [List.getElem?_append_right (by omega), hl, show k * 3 + 2 - k * 3 = 2 by omega]; rfl
    · obtain ⟨h1, h2, h3⟩ := ih (by omega)
      rw [flatK]
      exact ⟨by rw [List.getElem?_append_left (by omega)]; exact h1, by rw [List.getElem?_append_left (by omega)]; exact h2, by rw [List.getElem?_append_left (by omega)]; exact h3⟩
/-- The k-th kind response's cells. -/
theorem Whole.item {G s en base m kc k : Nat} {ka : Option Addr} {zs : List Int} {w : World} {rvs : Nat → Value} (h : Whole G s en zs base w (.slice ka m kc) m rvs) (hk : k < m) :
    ∃ g, ka = some ⟨g, 0, none⟩ ∧ w.cell? ⟨g, k * 3, none⟩ = some (.int .u32 (lenV zs (posK zs k) 4 : Nat)) ∧ w.cell? ⟨g, k * 3 + 1, none⟩ = some (.int .u64 (lenV zs (posK zs k + 4) 8 : Nat)) ∧ w.cell? ⟨g, k * 3 + 2, none⟩ = some (rvs k) := by
  rcases h.own.2 with ⟨h1, h2⟩ | ⟨g, cap, cur, h1, _⟩
  · omega
  · have h2 := h.own
    rw [h1] at h2
    obtain ⟨f1, f2, f3⟩ := flatK_at zs rvs hk
    have h4 : ka = some ⟨g, 0, none⟩ := by simp at h1; exact h1.1
    exact ⟨g, h4, (h2.cellAt (k * 3) (by omega)).trans f1, (h2.cellAt (k * 3 + 1) (by omega)).trans f2, (h2.cellAt (k * 3 + 2) (by omega)).trans f3⟩
/-- Its replicas. -/
theorem Whole.rep {G s en base m kc k : Nat} {ka : Option Addr} {zs : List Int} {w : World} {rvs : Nat → Value} (h : Whole G s en zs base w (.slice ka m kc) m rvs) (hk : k < m) :
    ∃ ra rc, rvs k = .slice ra (cntK zs s k) rc ∧ ∀ i, i < cntK zs s k → ∃ g, ra = some ⟨g, 0, none⟩ ∧ w.cell? ⟨g, i, none⟩ = some (.slice (some ⟨G, posK zs k + 14 + i * s, none⟩) s s) := by
  have h0 := h.reps k hk
  rcases h0.2 with ⟨h1, h2⟩ | ⟨g, cap, cur, h1, _⟩
  · exact ⟨none, 0, by rw [h1, h2], fun i hi => by omega⟩
  · refine ⟨_, _, h1, fun i hi => ⟨g, rfl, ?_⟩⟩
    rw [h1] at h0
    exact (h0.cellAt i (by omega)).trans (repCells_at G (posK zs k + 14) s hi)

end Go.Proofs.Qxb6604610aFmt
