/-
  What came in, opened: slices of numbers, slices of slices of slices of bytes.
-/
import Derived.Test.Qxb6604610aFmtDeep7
import Derived.Deep.Matrix
import Derived.OpenShut
namespace Go.Proofs.Qxb6604610aFmt
open Go.ChangeShapes Go.WideShapes Go.RowKit Go.Extern.Stop Go.Stop Go.Extern

theorem plain_addr {w : World} {a : Addr} {v : Value} (h : w.cell? (a.add 0) = some v) : ∃ b off, a = ⟨b, off, none⟩ := by
  obtain ⟨b, off, spot⟩ := a
  have hspot : spot = none := by simpa [Addr.add] using World.cell?_spot h
  subst hspot
  exact ⟨b, off, rfl⟩
theorem getD_mem (zs : List Int) {i : Nat} (h : i < zs.length) : zs.getD i 0 ∈ zs := by
  rw [List.getD_eq_getElem?_getD, List.getElem?_eq_getElem h]; exact List.getElem_mem h
/-- A row of bytes of what came in. -/
theorem brow_of {w : World} {A : Option Addr} {L C : Nat} {Z : List Int} (h1 : L ≤ C) (h2 : Z.length = C) (h4 : A = none → C = 0) (h5 : ∀ a', A = some a' → ∀ c, c < C → w.cell? (a'.add c) = some (.int .u8 (Z.getD c 0))) : BRow w A L Z := by
  refine ⟨by omega, fun hn => ?_⟩
  cases A with
  | none => have := h4 rfl; omega
  | some a =>
    have hc := h5 a rfl
    obtain ⟨b, off, rfl⟩ := plain_addr (hc 0 (by omega))
    exact ⟨b, off, rfl, fun i hi => by rw [← add_plain]; exact hc i (by omega)⟩
theorem bytes_of_wf {Z : List Int} (h : ∀ n ∈ Z, (Lit.int .u8 n).wf = true) : Bytes Z := by
  intro i
  rcases Nat.lt_or_ge i Z.length with hi | hi
  · exact bounds_u8 (h _ (getD_mem Z hi))
  · rw [List.getD_eq_getElem?_getD, List.getElem?_eq_none hi]; simp

section
variable {H : Type} {enc : TypeId × Value → H} {w : World} {held : Bool}
/-- A slice of bytes. -/
theorem open_b {fuel : Nat} {a : Option Addr} {n c : Nat} {x : DataW H × List MemPlace} (h : DataW.trod enc Tryf.prog w 0 (fun _ => true) held fuel 22 [.slice a n c] = some x) :
    n ≤ maxLen ∧ ∃ Z, BRow w a n Z ∧ Bytes Z := by
  rcases open_ints Tryf.underlying22 Tryf.underlying5 (by kernel_rfl) h with ⟨hcs, _⟩ | ⟨x, l, c', zs, hcs, _, hl, hm, hz, _, hcell, hwz⟩
  · simp at hcs
    obtain ⟨rfl, rfl, rfl⟩ := hcs
    exact ⟨Nat.zero_le _, [], ⟨Nat.le_refl _, fun h => absurd h (Nat.lt_irrefl _)⟩, fun i => by simp⟩
  · simp at hcs
    obtain ⟨rfl, rfl, rfl⟩ := hcs
    have hz' : zs.length = c := by simpa using hz
    exact ⟨by omega, zs, brow_of hl hz' (fun h => by cases h) (fun a' ha c' hc' => by cases ha; exact hcell c' (by omega)), bytes_of_wf hwz⟩
/-- A slice of numbers of one kind. -/
theorem open_n {T E : TypeId} {kd : IntKind} {mx : Nat} (hT : Tryf.prog.underlying T = some (.slice E)) (hE : Tryf.prog.underlying E = some (.int kd)) (hc : Tryf.prog.cellsOf E = 1) (hb : ∀ n : Int, (Lit.int kd n).wf = true → 0 ≤ n ∧ n ≤ mx)
    {fuel : Nat} {a : Option Addr} {n c : Nat} {x : DataW H × List MemPlace} (h : DataW.trod enc Tryf.prog w 0 (fun _ => true) held fuel T [.slice a n c] = some x) :
    n ≤ maxLen ∧ ∃ K : Nat → Nat, VRow w a n (fun i => .int kd (K i)) ∧ ∀ i, i < n → K i < mx + 1 := by
  rcases open_ints hT hE hc h with ⟨hcs, _⟩ | ⟨x, l, c', zs, hcs, _, hl, hm, hz, _, hcell, hwz⟩
  · simp at hcs
    obtain ⟨rfl, rfl, rfl⟩ := hcs
    exact ⟨Nat.zero_le _, fun _ => 0, fun h => absurd h (Nat.lt_irrefl _), fun i hi => by omega⟩
  · simp at hcs
    obtain ⟨rfl, rfl, rfl⟩ := hcs
    have hz' : zs.length = c := by simpa using hz
    refine ⟨by omega, fun i => (zs.getD i 0).toNat, fun hn => ?_, fun i hi => ?_⟩
    · obtain ⟨b, off, rfl⟩ := plain_addr (hcell 0 (by omega))
      refine ⟨b, off, rfl, fun i hi => ?_⟩
      have := hb _ (hwz _ (getD_mem zs (i := i) (by omega)))
      show w.cell? ⟨b, off + i, none⟩ = some (.int kd ((zs.getD i 0).toNat : Int))
      rw [← add_plain, hcell i (by omega), Int.toNat_of_nonneg this.1]
    · have := hb _ (hwz _ (getD_mem zs (i := i) (by omega)))
      show (zs.getD i 0).toNat < mx + 1
      omega
/-- A slice of slices of bytes. -/
theorem open_r2 {fuel : Nat} {v : Value} {x : DataW H × List MemPlace} (h : DataW.trod enc Tryf.prog w 0 (fun _ => true) held fuel 56 [v] = some x) :
    ∃ y : Nat × (Nat → Nat) × (Nat → List Int), ∃ a c, v = .slice a y.1 c ∧ y.1 ≤ maxLen ∧ Row2 0 w a y.1 y.2.1 y.2.2 ∧ (∀ j, j < y.1 → y.2.1 j ≤ maxLen) ∧ ∀ j, j < y.1 → Bytes (y.2.2 j) := by
  rcases Deep.open_int_rows Tryf.underlying56 Tryf.underlying22 Tryf.underlying5 (by kernel_rfl) (by kernel_rfl) h with ⟨hcs, _⟩ | ⟨a, len, cap, A, L, C, Z, hcs, _, hl, hm, _, hx⟩
  · simp at hcs
    subst hcs
    exact ⟨(0, fun _ => 0, fun _ => []), none, 0, rfl, Nat.zero_le _, fun h => absurd h (Nat.lt_irrefl _), fun j hj => absurd hj (Nat.not_lt_zero _), fun j hj => absurd hj (Nat.not_lt_zero _)⟩
  · simp at hcs
    subst hcs
    refine ⟨(len, L, Z), some a, cap, rfl, Nat.le_trans hl hm, fun hn => ?_, fun j hj => ?_, fun j hj => ?_⟩
    · obtain ⟨b, off, rfl⟩ := plain_addr (hx 0 (Nat.lt_of_lt_of_le hn hl)).1
      refine ⟨b, off, rfl, Nat.zero_le _, fun j hj => ?_⟩
      obtain ⟨h1, h2, h3, h4, h5, h6, h7⟩ := hx j (Nat.lt_of_lt_of_le hj hl)
      exact ⟨A j, C j, by rw [← add_plain]; exact h1, brow_of h2 h4 h6 (fun a' ha => (h7 a' ha).2), fun _ _ _ => Nat.zero_le _⟩
    · obtain ⟨h1, h2, h3, _⟩ := hx j (Nat.lt_of_lt_of_le hj hl)
      exact Nat.le_trans h2 h3
    · obtain ⟨_, _, _, _, h5, _⟩ := hx j (Nat.lt_of_lt_of_le hj hl)
      exact bytes_of_wf h5
/-- A slice of slices of slices of bytes. -/
theorem open_r3 {fuel : Nat} {a : Option Addr} {n c : Nat} {x : DataW H × List MemPlace} (h : DataW.trod enc Tryf.prog w 0 (fun _ => true) held fuel 54 [.slice a n c] = some x) :
    n ≤ maxLen ∧ ∃ (N : Nat → Nat) (L : Nat → Nat → Nat) (Z : Nat → Nat → List Int), Rep3 0 w a n N L Z ∧ (∀ i, i < n → N i ≤ maxLen) ∧ (∀ i, i < n → ∀ j, j < N i → L i j ≤ maxLen) ∧ ∀ i, i < n → ∀ j, j < N i → Bytes (Z i j) := by
  rcases Deep.open_slice1 Tryf.underlying54 (by kernel_rfl) h with ⟨hcs, _⟩ | ⟨a', len, cap, m, fu, V, D, Pl, hcs, _, hl, hm, hmm, _, hx⟩
  · simp at hcs
    obtain ⟨rfl, rfl, rfl⟩ := hcs
    exact ⟨Nat.zero_le _, fun _ => 0, fun _ _ => 0, fun _ _ => [], fun h => absurd h (Nat.lt_irrefl _), fun i hi => absurd hi (Nat.not_lt_zero _), fun i hi => absurd hi (Nat.not_lt_zero _), fun i hi => absurd hi (Nat.not_lt_zero _)⟩
  · simp at hcs
    obtain ⟨rfl, rfl, rfl⟩ := hcs
    have hmm' : m = c := by simpa using hmm
    obtain ⟨y, hy⟩ := Deep.choose_lt (α := Nat × (Nat → Nat) × (Nat → List Int)) (n := n) (p := fun i y => ∃ a c, V i = .slice a y.1 c ∧ y.1 ≤ maxLen ∧ Row2 0 w a y.1 y.2.1 y.2.2 ∧ (∀ j, j < y.1 → y.2.1 j ≤ maxLen) ∧ ∀ j, j < y.1 → Bytes (y.2.2 j))
      (fun i hi => open_r2 (hx i (by omega)).2)
    refine ⟨Nat.le_trans hl hm, fun i => (y i).1, fun i => (y i).2.1, fun i => (y i).2.2, fun hn => ?_, fun i hi => ?_, fun i hi => ?_, fun i hi => ?_⟩
    · obtain ⟨b, off, rfl⟩ := plain_addr (hx 0 (by omega)).1
      refine ⟨b, off, rfl, Nat.zero_le _, fun i hi => ?_⟩
      obtain ⟨ai, ci, h1, _, h3, _⟩ := hy i hi
      exact ⟨ai, ci, by rw [← add_plain, ← h1]; exact (hx i (by omega)).1, h3⟩
    · obtain ⟨_, _, _, h2, _⟩ := hy i hi; exact h2
    · obtain ⟨_, _, _, _, _, h4, _⟩ := hy i hi; exact h4
    · obtain ⟨_, _, _, _, _, _, h5⟩ := hy i hi; exact h5
end
end Go.Proofs.Qxb6604610aFmt
