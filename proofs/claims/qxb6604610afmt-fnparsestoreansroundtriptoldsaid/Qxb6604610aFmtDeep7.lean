/-
  Rows of rows of bytes; cloneReps_b1 (31).
-/
import Derived.Test.Qxb6604610aFmtRowsT
import Derived.Test.Qxb6604610aFmtRound
namespace Go.Proofs.Qxb6604610aFmt
open Go.RowKit Go.Extern.Stop Go.Stop Go.Extern

/-- n bytes behind a, in a block from lo on. -/
def BRowL (lo : Nat) (w : World) (a : Option Addr) (n : Nat) (zs : List Int) : Prop :=
  BRow w a n zs ∧ (0 < n → ∀ x, a = some x → lo ≤ x.block)
/-- n rows of bytes behind a; all blocks from lo on. -/
def Row2 (lo : Nat) (w : World) (a : Option Addr) (n : Nat) (L : Nat → Nat) (Z : Nat → List Int) : Prop :=
  0 < n → ∃ b off, a = some ⟨b, off, none⟩ ∧ lo ≤ b ∧ ∀ j, j < n → ∃ aj cj, w.cell? ⟨b, off + j, none⟩ = some (.slice aj (L j) cj) ∧ BRowL lo w aj (L j) (Z j)
def Rep3 (lo : Nat) (w : World) (a : Option Addr) (n : Nat) (N : Nat → Nat) (L : Nat → Nat → Nat) (Z : Nat → Nat → List Int) : Prop :=
  0 < n → ∃ b off, a = some ⟨b, off, none⟩ ∧ lo ≤ b ∧ ∀ i, i < n → ∃ ai ci, w.cell? ⟨b, off + i, none⟩ = some (.slice ai (N i) ci) ∧ Row2 lo w ai (N i) (L i) (Z i)
/-- The blocks from lo on stay. -/
def Stay (lo : Nat) (w w' : World) : Prop := ∀ b o v, lo ≤ b → w.cell? ⟨b, o, none⟩ = some v → w'.cell? ⟨b, o, none⟩ = some v
theorem Stay.of_below {lo : Nat} {w w' : World} (h : Below w.heap.size w w') : Stay lo w w' := fun _ _ _ _ hc => (h.cell (World.block_lt_of_cell? _ _ hc)).trans hc
theorem Stay.setCell {lo B : Nat} (w : World) (h : B < lo) (j : Nat) (u : Value) : Stay lo w (w.setCell ⟨B, j, none⟩ u) := fun b _ _ hb hc =>
  Frame.cell (S := fun i => i = B) (Frame.setCell (S := fun i => i = B) (g := B) (Frame.refl _ w) (Or.inl rfl) j u) hc (by show ¬ b = B; omega)
theorem Stay.trans {lo : Nat} {a b c : World} (h : Stay lo a b) (k : Stay lo b c) : Stay lo a c := fun _ _ _ hb hc => k _ _ _ hb (h _ _ _ hb hc)
theorem BRowL.stay {lo : Nat} {w w' : World} {a : Option Addr} {n : Nat} {zs : List Int} (h : BRowL lo w a n zs) (k : Stay lo w w') : BRowL lo w' a n zs := by
  refine ⟨⟨h.1.1, fun hn => ?_⟩, h.2⟩
  obtain ⟨b, off, rfl, hc⟩ := h.1.2 hn
  exact ⟨b, off, rfl, fun i hi => k _ _ _ (h.2 hn _ rfl) (hc i hi)⟩
theorem Row2.stay {lo : Nat} {w w' : World} {a : Option Addr} {n : Nat} {L : Nat → Nat} {Z : Nat → List Int} (h : Row2 lo w a n L Z) (k : Stay lo w w') : Row2 lo w' a n L Z := by
  intro hn
  obtain ⟨b, off, rfl, hb, hc⟩ := h hn
  refine ⟨b, off, rfl, hb, fun j hj => ?_⟩
  obtain ⟨aj, cj, h1, h2⟩ := hc j hj
  exact ⟨aj, cj, k _ _ _ hb h1, h2.stay k⟩
theorem Rep3.stay {lo : Nat} {w w' : World} {a : Option Addr} {n : Nat} {N : Nat → Nat} {L : Nat → Nat → Nat} {Z : Nat → Nat → List Int} (h : Rep3 lo w a n N L Z) (k : Stay lo w w') : Rep3 lo w' a n N L Z := by
  intro hn
  obtain ⟨b, off, rfl, hb, hc⟩ := h hn
  refine ⟨b, off, rfl, hb, fun j hj => ?_⟩
  obtain ⟨aj, cj, h1, h2⟩ := hc j hj
  exact ⟨aj, cj, k _ _ _ hb h1, h2.stay k⟩
theorem BRowL.lo {lo lo' : Nat} {w : World} {a : Option Addr} {n : Nat} {zs : List Int} (h : BRowL lo w a n zs) (hl : lo' ≤ lo) : BRowL lo' w a n zs := ⟨h.1, fun hn x hx => Nat.le_trans hl (h.2 hn x hx)⟩
theorem Row2.lo {lo lo' : Nat} {w : World} {a : Option Addr} {n : Nat} {L : Nat → Nat} {Z : Nat → List Int} (h : Row2 lo w a n L Z) (hl : lo' ≤ lo) : Row2 lo' w a n L Z := by
  intro hn
  obtain ⟨b, off, rfl, hb, hc⟩ := h hn
  refine ⟨b, off, rfl, Nat.le_trans hl hb, fun j hj => ?_⟩
  obtain ⟨aj, cj, h1, h2⟩ := hc j hj
  exact ⟨aj, cj, h1, h2.lo hl⟩
theorem Rep3.lo {lo lo' : Nat} {w : World} {a : Option Addr} {n : Nat} {N : Nat → Nat} {L : Nat → Nat → Nat} {Z : Nat → Nat → List Int} (h : Rep3 lo w a n N L Z) (hl : lo' ≤ lo) : Rep3 lo' w a n N L Z := by
  intro hn
  obtain ⟨b, off, rfl, hb, hc⟩ := h hn
  refine ⟨b, off, rfl, Nat.le_trans hl hb, fun j hj => ?_⟩
  obtain ⟨aj, cj, h1, h2⟩ := hc j hj
  exact ⟨aj, cj, h1, h2.lo hl⟩

/-- Block B is a row of n cells of the call's own; of the first k Q holds, the others hold z. -/
def FillQ (T : TypeId) (z : Value) (w : World) (B n k : Nat) (Q : Nat → Value → Prop) : Prop :=
  ∃ cur : Array Value, w.heap[B]? = some (.cells cur T (0, 0)) ∧ cur.size = n ∧ (∀ i, i < k → ∃ v, cur[i]? = some v ∧ Q i v) ∧ ∀ i, k ≤ i → i < n → cur[i]? = some z
theorem FillQ.start {T : TypeId} {z : Value} {w : World} {base B n : Nat} {Q : Nat → Value → Prop} (h1 : z.cells = #[z]) (h : w.ownsRow base T 1 (.slice (some ⟨B, 0, none⟩) n n) n (madeCells z.cells (n * 1)).toList) : FillQ T z w B n 0 Q := by
  rcases h.2 with ⟨h', _⟩ | ⟨g', cap', cur', h', _, hgg, _, _, hsz, hxs⟩
  · simp at h'
  · simp only [Value.slice.injEq, Option.some.injEq, Addr.mk.injEq, and_true, true_and] at h'
    obtain ⟨rfl, rfl⟩ := h'
    refine ⟨cur', hgg, by omega, fun i hi => by omega, fun i _ hi => ?_⟩
    have h2 : (cur'.toList.take (n * 1))[i]? = some z := by
      rw [hxs, h1]
      simp [madeCells, hi, Nat.mod_one]
    rw [List.getElem?_take] at h2
    simpa [hi] using h2
theorem FillQ.cell {T : TypeId} {z : Value} {w : World} {B n k j : Nat} {Q : Nat → Value → Prop} (h : FillQ T z w B n k Q) (hk : j < n) : ∃ v, w.cell? ⟨B, j, none⟩ = some v := by
  obtain ⟨cur, hg, hs, _⟩ := h
  exact ⟨cur[j], by rw [cell_of_row w B j cur T (0, 0) hg]; exact Array.getElem?_eq_getElem (by omega)⟩
theorem FillQ.free {T : TypeId} {z : Value} {w : World} {B n k : Nat} {Q : Nat → Value → Prop} (h : FillQ T z w B n k Q) (j : Nat) : w.frozen? ⟨B, j, none⟩ = false := by
  obtain ⟨cur, hg, _⟩ := h
  exact frozen_of_row w B j cur T hg
theorem FillQ.step {T : TypeId} {z : Value} {w : World} {B n k : Nat} {Q Q' : Nat → Value → Prop} (h : FillQ T z w B n k Q) (hk : k < n) (u : Value) (hu : Q' k u) (hq : ∀ i v, i < k → Q i v → Q' i v) : FillQ T z (w.setCell ⟨B, k, none⟩ u) B n (k + 1) Q' := by
  obtain ⟨cur, hg, hs, hc, hr⟩ := h
  refine ⟨cur.setIfInBounds k u, heap_setCell_same w B k cur T _ hg, by simpa using hs, fun i hi => ?_, fun i hi hn => ?_⟩
  · rw [Array.getElem?_setIfInBounds]
    by_cases e : k = i
    · subst e; exact ⟨u, by simp [hs, hk], hu⟩
    · rw [if_neg e]
      obtain ⟨v, h1, h2⟩ := hc i (by omega)
      exact ⟨v, h1, hq i v (by omega) h2⟩
  · rw [Array.getElem?_setIfInBounds, if_neg (by omega)]
    exact hr i (by omega) hn
theorem FillQ.skip {T : TypeId} {z : Value} {w : World} {B n k : Nat} {Q : Nat → Value → Prop} (h : FillQ T z w B n k Q) (hk : k < n) (hu : Q k z) : FillQ T z w B n (k + 1) Q := by
  obtain ⟨cur, hg, hs, hc, hr⟩ := h
  refine ⟨cur, hg, hs, fun i hi => ?_, fun i hi hn => hr i (by omega) hn⟩
  by_cases e : i = k
  · subst e; exact ⟨z, hr i (Nat.le_refl _) hk, hu⟩
  · exact hc i (by omega)
theorem FillQ.mono {T : TypeId} {z : Value} {w w' : World} {B n k : Nat} {Q Q' : Nat → Value → Prop} (h : FillQ T z w B n k Q) (hb : w'.heap[B]? = w.heap[B]?) (hq : ∀ i v, i < k → Q i v → Q' i v) : FillQ T z w' B n k Q' := by
  obtain ⟨cur, hg, hs, hc, hr⟩ := h
  refine ⟨cur, hb.trans hg, hs, fun i hi => ?_, hr⟩
  obtain ⟨v, h1, h2⟩ := hc i hi
  exact ⟨v, h1, hq i v hi h2⟩
theorem FillQ.at {T : TypeId} {z : Value} {w : World} {B n i : Nat} {Q : Nat → Value → Prop} (h : FillQ T z w B n n Q) (hi : i < n) : ∃ v, w.cell? ⟨B, 0 + i, none⟩ = some v ∧ Q i v := by
  obtain ⟨cur, hg, hs, hc, _⟩ := h
  obtain ⟨v, h1, h2⟩ := hc i hi
  exact ⟨v, by rw [Nat.zero_add, cell_of_row w B i cur T (0, 0) hg]; exact h1, h2⟩
theorem FillQ.lt {T : TypeId} {z : Value} {w : World} {B n k : Nat} {Q : Nat → Value → Prop} (h : FillQ T z w B n k Q) : B < w.heap.size := by
  obtain ⟨cur, hg, _⟩ := h
  exact (Array.getElem?_eq_some_iff.1 hg).1
/-- A copy of bytes lies in a new block. -/
theorem clone_new (a : Option Addr) (n c : Nat) (zs : List Int) (w : World) (hn : n ≤ 2097152) (r : BRow w a n zs) :
    Calls Tryf.prog 9 #[.slice a n c] w fun e w' => ∃ a' c', e = .returned (.slice a' n c') ∧ BRowL w.heap.size w' a' n zs ∧ Below w.heap.size w w' := by
  cases a with
  | none =>
    have h0 : n = 0 := by
      rcases Nat.eq_zero_or_pos n with h | h
      · exact h
      · obtain ⟨b, off, hx, _⟩ := r.2 h; cases hx
    subst h0
    refine (clone_none 0 c w).mono ?_
    rintro e w' ⟨rfl, rfl⟩
    exact ⟨none, 0, rfl, ⟨r, fun h => absurd h (Nat.lt_irrefl _)⟩, Below.refl _ _⟩
  | some x =>
    refine (clone_some x n c zs w hn r).mono ?_
    rintro e w' ⟨rfl, hr, _, hb⟩
    exact ⟨_, n, rfl, ⟨hr, fun _ x hx => by obtain rfl : _ = x := by simpa using hx
                                            exact Nat.le_refl _⟩, hb⟩
end Go.Proofs.Qxb6604610aFmt
