/-
  Rows of any one-cell element; cloneU32_b1 (29), cloneU64_b1 (30).
-/
import Derived.Test.Qxb6604610aFmtZZ
namespace Go.Proofs.Qxb6604610aFmt
open Go.RowKit Go.Extern.Stop Go.Stop Go.Extern

/-- n cells lie behind the address a, as f has them. -/
def VRow (w : World) (a : Option Addr) (n : Nat) (f : Nat → Value) : Prop := 0 < n → ∃ b off, a = some ⟨b, off, none⟩ ∧ ∀ i, i < n → w.cell? ⟨b, off + i, none⟩ = some (f i)
theorem VRow.below {w w' : World} {a : Option Addr} {n : Nat} {f : Nat → Value} (h : VRow w a n f) (hb : Below w.heap.size w w') : VRow w' a n f := by
  intro hn
  obtain ⟨b, off, rfl, hc⟩ := h hn
  exact ⟨b, off, rfl, fun i hi => (hb.cell (p := ⟨b, off + i, none⟩) (World.block_lt_of_cell? _ _ (hc i hi))).trans (hc i hi)⟩
/-- Block B is a row of n cells of the call's own, the first k as f has them. -/
def FillT (T : TypeId) (w : World) (B n k : Nat) (f : Nat → Value) : Prop := ∃ cur : Array Value, w.heap[B]? = some (.cells cur T (0, 0)) ∧ cur.size = n ∧ ∀ i, i < k → cur[i]? = some (f i)
theorem FillT.start {T : TypeId} {w : World} {base B n : Nat} {xs : List Value} {f : Nat → Value} (h : w.ownsRow base T 1 (.slice (some ⟨B, 0, none⟩) n n) n xs) : FillT T w B n 0 f := by
  rcases h.2 with ⟨h', _⟩ | ⟨g', cap', cur', h', _, hgg, _, _, hsz, _⟩
  · simp at h'
  · simp only [Value.slice.injEq, Option.some.injEq, Addr.mk.injEq, and_true, true_and] at h'
    obtain ⟨rfl, rfl⟩ := h'
    exact ⟨cur', hgg, by omega, fun i hi => by omega⟩
theorem FillT.cell {T : TypeId} {w : World} {B n k j : Nat} {f : Nat → Value} (h : FillT T w B n k f) (hk : j < n) : ∃ v, w.cell? ⟨B, j, none⟩ = some v := by
  obtain ⟨cur, hg, hs, _⟩ := h
  exact ⟨cur[j], by rw [cell_of_row w B j cur T (0, 0) hg]; exact Array.getElem?_eq_getElem (by omega)⟩
theorem FillT.free {T : TypeId} {w : World} {B n k : Nat} {f : Nat → Value} (h : FillT T w B n k f) (j : Nat) : w.frozen? ⟨B, j, none⟩ = false := by
  obtain ⟨cur, hg, _⟩ := h
  exact frozen_of_row w B j cur T hg
theorem FillT.step {T : TypeId} {w : World} {B n k : Nat} {f : Nat → Value} (h : FillT T w B n k f) (hk : k < n) : FillT T (w.setCell ⟨B, k, none⟩ (f k)) B n (k + 1) f := by
  obtain ⟨cur, hg, hs, hc⟩ := h
  refine ⟨cur.setIfInBounds k (f k), heap_setCell_same w B k cur T _ hg, by simpa using hs, fun i hi => ?_⟩
  rw [Array.getElem?_setIfInBounds]
  by_cases e : k = i
  · subst e; simp [hs, hk]
  · rw [if_neg e]; exact hc i (by omega)
theorem FillT.row {T : TypeId} {w : World} {B n : Nat} {f : Nat → Value} (h : FillT T w B n n f) : VRow w (some ⟨B, 0, none⟩) n f := by
  obtain ⟨cur, hg, hs, hc⟩ := h
  exact fun _ => ⟨B, 0, rfl, fun i hi => by rw [Nat.zero_add, cell_of_row w B i cur T (0, 0) hg]; exact hc i hi⟩
theorem FillT.lt {T : TypeId} {w : World} {B n k : Nat} {f : Nat → Value} (h : FillT T w B n k f) : B < w.heap.size := by
  obtain ⟨cur, hg, _⟩ := h
  exact (Array.getElem?_eq_some_iff.1 hg).1
end Go.Proofs.Qxb6604610aFmt
