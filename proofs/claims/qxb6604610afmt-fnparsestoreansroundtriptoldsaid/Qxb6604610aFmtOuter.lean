/-
  ParseStoreAns$1 (46): the kind responses.
-/
import Derived.Test.Qxb6604610aFmtStage
namespace Go.Proofs.Qxb6604610aFmt
open Go.RowKit Go.Extern.Stop Go.Stop Go.Extern

/-- The kind responses' cells. -/
def flatK (zs : List Int) (rvs : Nat → Value) : Nat → List Value
  | 0 => []
  | k + 1 => flatK zs rvs k ++ [.int .u32 (lenV zs (posK zs k) 4 : Nat), .int .u64 (lenV zs (posK zs k + 4) 8 : Nat), rvs k]
theorem flatK_congr (zs : List Int) {r1 r2 : Nat → Value} {k : Nat} (h : ∀ i, i < k → r1 i = r2 i) : flatK zs r1 k = flatK zs r2 k := by
  induction k with
  | zero => rfl
  | succ m ih => rw [flatK, flatK, ih (fun i hi => h i (by omega)), h m (by omega)]
theorem posK_ge (zs : List Int) (k : Nat) : k + 2 ≤ posK zs k := by
  induction k with
  | zero => simp [posK]
  | succ m ih => rw [posK]; omega

/-- Rows of different element types lie in different blocks. -/
theorem owns_ne {w : World} {b b' : Nat} {e e' : TypeId} {s s' n n' : Nat} {v v' : Value} {xs xs' : List Value} (h : w.ownsRow b e s v n xs) (h' : w.ownsRow b' e' s' v' n' xs') (he : e ≠ e') {k : Nat} (hk : v.ownBlock = some k) : some k ≠ v'.ownBlock := by
  intro hk'
  rcases h.2 with ⟨rfl, _⟩ | ⟨g, cp, cur, rfl, _, hg, _⟩
  · simp [Value.ownBlock] at hk
  rcases h'.2 with ⟨rfl, _⟩ | ⟨g', cp', cur', rfl, _, hg', _⟩
  · simp [Value.ownBlock] at hk'
  simp [Value.ownBlock] at hk hk'
  subst hk hk'
  rw [hg] at hg'
  simp at hg'
  exact he hg'.2
theorem owns_type {w : World} {b : Nat} {e t : TypeId} {s n k : Nat} {v : Value} {xs : List Value} {cs : Array Value} {fr : Nat × Nat} (h : w.ownsRow b e s v n xs) (hk : w.heap[k]? = some (.cells cs t fr)) (he : e ≠ t) : some k ≠ v.ownBlock := by
  intro hk'
  rcases h.2 with ⟨rfl, _⟩ | ⟨g, cp, cur, rfl, _, hg, _⟩
  · simp [Value.ownBlock] at hk'
  simp [Value.ownBlock] at hk'
  subst hk'
  rw [hk] at hg
  simp at hg
  exact he hg.2.1.symm

/-- k kind responses were read. -/
structure Inv46 (p A G : Nat) (bv : Value) (en s : Nat) (zs : List Int) (w wr : World) (k : Nat) (kv : Value) (rvs : Nat → Value) : Prop where
  rd : Rd wr p bv (posK zs k) en .nilIface
  a : wr.heap[A]? = some (.cells #[kv] 47 (0, 0))
  own : wr.ownsRow w.heap.size 64 3 kv k (flatK zs rvs k)
  reps : ∀ i, i < k → wr.ownsRow w.heap.size 22 1 (rvs i) (cntK zs s i) (repCells G (posK zs i + 14) s (cntK zs s i))
  ok : ∀ i, i < k → ItemOK zs s en (posK zs i)
  le : posK zs k ≤ en
  fr : Frame (fun i => i = p ∨ i = A) w wr
/-- A fault at f. -/
structure Bad46 (p A : Nat) (bv : Value) (en s : Nat) (zs : List Int) (w wr : World) (f : Nat) : Prop where
  rd : RS wr p bv 0 en (some f)
  a : ∃ x n c, wr.heap[A]? = some (.cells #[.slice x n c] 47 (0, 0))
  fr : Frame (fun i => i = p ∨ i = A) w wr
  why : ∃ k, (∀ i, i < k → ItemOK zs s en (posK zs i)) ∧ posK zs k < en ∧ ItemBad zs s en (posK zs k) f
theorem Bad46.drewN {p A en s f : Nat} {bv : Value} {zs : List Int} {w wr : World} (h : Bad46 p A bv en s zs w wr f) (q : Nat) : Bad46 p A bv en s zs w (wr.drewN q) f := ⟨h.rd.drewN q, h.a, h.fr.drewN q, h.why⟩
theorem Inv46.drewN {p A G en s k : Nat} {bv kv : Value} {zs : List Int} {w wr : World} {rvs : Nat → Value} (h : Inv46 p A G bv en s zs w wr k kv rvs) (q : Nat) : Inv46 p A G bv en s zs w (wr.drewN q) k kv rvs := ⟨h.rd, h.a, h.own, h.reps, h.ok, h.le, h.fr.drewN q⟩

section
variable {p A G en s k g cp an ac : Nat} {bv kv : Value} {zs : List Int} {w wr w3 w5 : World} {rvs : Nat → Value} {o : Obj} {aa : Option Addr}
/-- The world behind the append and the store. -/
theorem frame36 (F13 : Frame (fun i => i = p) wr w3) (hI : Inv46 p A G bv en s zs w wr k kv rvs) (hp : p < w.heap.size) (hA : A < w.heap.size) (hAp : A ≠ p) (hg : (w3.alloc o).grownBy w5 kv.ownBlock) (v : Value) :
    w3.ownsRow w.heap.size 64 3 kv k (flatK zs rvs k) ∧ (∀ i, kv.ownBlock = some i → w.heap.size ≤ i) ∧ w5.heap[A]? = some (.cells #[kv] 47 (0, 0)) ∧
    Frame (fun i => some i = kv.ownBlock ∨ i = A) w3 (w5.setCell ⟨A, 0, none⟩ v) := by
  have hb : ∀ i, kv.ownBlock = some i → w.heap.size ≤ i := fun i hi => (hI.own.lt i hi).1
  have h3 : w3.ownsRow w.heap.size 64 3 kv k (flatK zs rvs k) := F13.owns hI.own (fun i hi e => by have := hb i hi; omega)
  have F35 : Frame (fun i => some i = kv.ownBlock) w3 w5 := ((Frame.refl _ w3).alloc o).grown hg (fun i hi => Or.inl hi.symm)
  refine ⟨h3, hb, F35.heap (F13.heap hI.a hAp) (fun e => by have := hb A e.symm; omega), ?_⟩
  exact Frame.setCell (S := fun i => some i = kv.ownBlock ∨ i = A) (g := A) (F35.mono (fun i _ hi => Or.inl hi)) (Or.inl (Or.inr rfl)) 0 v

theorem good46 (F13 : Frame (fun i => i = p) wr w3) (hI : Inv46 p A G bv en s zs w wr k kv rvs) (hp : p < w.heap.size) (hA : A < w.heap.size) (hAp : A ≠ p) (hg : (w3.alloc o).grownBy w5 kv.ownBlock)
    (hr : Rd w3 p bv (posK zs k + 14 + m16 zs (posK zs k)) en .nilIface) (hok : ItemOK zs s en (posK zs k)) (hrv : w3.ownsRow w.heap.size 22 1 (.slice aa an ac) (cntK zs s k) (repCells G (posK zs k + 14) s (cntK zs s k)))
    (hown : w5.ownsRow w.heap.size 64 3 (.slice (some ⟨g, 0, none⟩) (k + 1) cp) (k + 1) (flatK zs rvs k ++ [.int .u32 (lenV zs (posK zs k) 4 : Nat), .int .u64 (lenV zs (posK zs k + 4) 8 : Nat), .slice aa an ac])) :
    Inv46 p A G bv en s zs w (w5.setCell ⟨A, 0, none⟩ (.slice (some ⟨g, 0, none⟩) (k + 1) cp)) (k + 1) (.slice (some ⟨g, 0, none⟩) (k + 1) cp) (fun i => if i = k then .slice aa an ac else rvs i) := by
  obtain ⟨h3, hb, hA5, F36⟩ := frame36 F13 hI hp hA hAp hg (.slice (some ⟨g, 0, none⟩) (k + 1) cp)
  have hnT : ∀ (v : Value) (n : Nat) (xs : List Value), w3.ownsRow w.heap.size 22 1 v n xs → ∀ i, v.ownBlock = some i → ¬ (some i = kv.ownBlock ∨ i = A) := by
    intro v n xs ho i hi hx
    rcases hx with hx | rfl
    · exact owns_ne ho h3 (by decide) hi hx
    · have := (ho.lt i hi).1
      omega
  refine ⟨?_, heap_setCell_same w5 A 0 _ 47 _ hA5, ?_, ?_, ?_, ?_, ?_⟩
  · exact F36.heap hr (by
      rintro (e | e)
      · have := hb p e.symm
        omega
      · exact hAp e.symm)
  · have e : flatK zs (fun i => if i = k then .slice aa an ac else rvs i) (k + 1) = flatK zs rvs k ++ [.int .u32 (lenV zs (posK zs k) 4 : Nat), .int .u64 (lenV zs (posK zs k + 4) 8 : Nat), .slice aa an ac] := by
      rw [flatK, flatK_congr zs (r2 := rvs) (fun i hi => by simp; omega)]
      simp
    rw [e]
    exact ownsRow_setCell_below hown (a := ⟨A, 0, none⟩) hA _
  · intro i hi
    by_cases e : i = k
    · subst e
      simp only [if_true]
      exact F36.owns hrv (hnT _ _ _ hrv)
    · have h1 := F13.owns (hI.reps i (by omega)) (fun j hj e => by have := ((hI.reps i (by omega)).lt j hj).1; omega)
      simp only [if_neg e]
      exact F36.owns h1 (hnT _ _ _ h1)
  · intro i hi
    by_cases e : i = k
    · subst e; exact hok
    · exact hI.ok i (by omega)
  · exact hok.1
  · refine Frame.join hI.fr ((F13.mono (T := fun i => i = p ∨ i = A ∨ w.heap.size ≤ i) (fun i _ hi => Or.inl hi)).join F36 ?_) ?_
    · rintro i _ (e | e)
      · exact Or.inr (Or.inr (hb i e.symm))
      · exact Or.inr (Or.inl e)
    · rintro i hi (e | e | e)
      · exact Or.inl e
      · exact Or.inr e
      · omega

theorem bad46 {f : Nat} (F13 : Frame (fun i => i = p) wr w3) (hI : Inv46 p A G bv en s zs w wr k kv rvs) (hp : p < w.heap.size) (hA : A < w.heap.size) (hAp : A ≠ p) (hg : (w3.alloc o).grownBy w5 kv.ownBlock)
    (hr : ∃ off, RS w3 p bv off en (some f)) (hlt : posK zs k < en) (hbad : ItemBad zs s en (posK zs k) f) :
    Bad46 p A bv en s zs w (w5.setCell ⟨A, 0, none⟩ (.slice (some ⟨g, 0, none⟩) (k + 1) cp)) f := by
  obtain ⟨h3, hb, hA5, F36⟩ := frame36 F13 hI hp hA hAp hg (.slice (some ⟨g, 0, none⟩) (k + 1) cp)
  obtain ⟨off, hr⟩ := hr
  have hA3 := F13.heap hI.a hAp
  refine ⟨?_, ⟨_, _, _, heap_setCell_same w5 A 0 _ 47 _ hA5⟩, ?_, k, hI.ok, hlt, hbad⟩
  · refine RS.keep (off := 0) (w := w3) hr F36 ?_ ?_
    · rintro (e | e)
      · have := hb p e.symm
        omega
      · exact hAp e.symm
    · rintro j cs hj (e | rfl)
      · exact owns_type h3 hj (by decide) e
      · rw [hA3] at hj
        simp at hj
  · refine Frame.join hI.fr ((F13.mono (T := fun i => i = p ∨ i = A ∨ w.heap.size ≤ i) (fun i _ hi => Or.inl hi)).join F36 ?_) ?_
    · rintro i _ (e | e)
      · exact Or.inr (Or.inr (hb i e.symm))
      · exact Or.inr (Or.inl e)
    · rintro i hi (e | e | e)
      · exact Or.inl e
      · exact Or.inr e
      · omega
end
end Go.Proofs.Qxb6604610aFmt
