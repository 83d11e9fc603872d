/-
  Frames over a set of blocks; a step for a call of a Go function in a region that draws; ParseStoreAns$1$1 (47).
-/
import Derived.Test.Qxb6604610aFmtNums
import Derived.Deep.AppendLies
import Derived.Deep.RegionLaw
namespace Go.Proofs.Qxb6604610aFmt
open Go.RowKit Go.Extern.Stop Go.Stop Go.Extern

/-- The blocks of S apart, what lay in memory lies there as before. -/
structure Frame (S : Nat → Prop) (w w' : World) : Prop where
  os : w'.os = w.os
  tape : w'.tape = w.tape
  output : w'.output = w.output
  size : w.heap.size ≤ w'.heap.size
  block : ∀ k, k < w.heap.size → ¬ S k → w'.heap[k]? = w.heap[k]?
theorem Frame.refl (S : Nat → Prop) (w : World) : Frame S w w := ⟨rfl, rfl, rfl, Nat.le_refl _, fun _ _ _ => rfl⟩
theorem Frame.trans {S : Nat → Prop} {a b c : World} (h : Frame S a b) (k : Frame S b c) : Frame S a c :=
  ⟨k.os.trans h.os, k.tape.trans h.tape, k.output.trans h.output, Nat.le_trans h.size k.size, fun i hi hp => (k.block i (Nat.lt_of_lt_of_le hi h.size) hp).trans (h.block i hi hp)⟩
theorem Frame.mono {S T : Nat → Prop} {w w' : World} (h : Frame S w w') (hst : ∀ k, k < w.heap.size → S k → T k) : Frame T w w' := ⟨h.os, h.tape, h.output, h.size, fun k hk hn => h.block k hk (fun hs => hn (hst k hk hs))⟩
theorem Frame.of_below {S : Nat → Prop} {w w' : World} (h : Below w.heap.size w w') : Frame S w w' := ⟨h.os, h.tape, h.output, h.size, fun k hk _ => h.block k hk⟩
theorem Frame.of_only {S : Nat → Prop} {p : Nat} {w w' : World} (h : Only p w w') (hp : S p) : Frame S w w' := ⟨h.os, h.tape, h.output, h.size, fun k hk hn => h.block k hk (fun e => hn (e ▸ hp))⟩
theorem Frame.alloc {S : Nat → Prop} {a w : World} (h : Frame S a w) (o : Obj) : Frame S a (w.alloc o) := h.trans (Frame.of_below ((Below.refl _ w).alloc (Nat.le_refl _) o))
theorem Frame.drewN {S : Nat → Prop} {a w : World} (h : Frame S a w) (q : Nat) : Frame S a (w.drewN q) := ⟨h.os, h.tape, h.output, h.size, h.block⟩
theorem Frame.drew {S : Nat → Prop} {a w : World} (h : Frame S a w) : Frame S a w.drew := ⟨h.os, h.tape, h.output, h.size, h.block⟩
theorem Frame.setCell {S : Nat → Prop} {a w : World} (h : Frame S a w) {g : Nat} (hg : S g ∨ a.heap.size ≤ g) (j : Nat) (u : Value) : Frame S a (w.setCell ⟨g, j, none⟩ u) :=
  ⟨h.os, h.tape, h.output, by simpa using h.size, fun k hk hn => (Below.heap_setCell w ⟨g, j, none⟩ u k (by
    show k ≠ g
    rintro rfl
    rcases hg with hg | hg
    · exact hn hg
    · omega)).trans (h.block k hk hn)⟩
theorem Frame.grown {S : Nat → Prop} {a w w' : World} {row : Option Nat} (h : Frame S a w) (hg : w.grownBy w' row) (hr : ∀ k, row = some k → S k ∨ a.heap.size ≤ k) : Frame S a w' :=
  ⟨hg.os.trans h.os, hg.tape.trans h.tape, hg.output.trans h.output, Nat.le_trans h.size hg.size, fun k hk hn => (hg.block k (Nat.lt_of_lt_of_le hk h.size) (by
    intro e
    rcases hr k e.symm with hs | hs
    · exact hn hs
    · omega)).trans (h.block k hk hn)⟩
theorem Frame.cell {S : Nat → Prop} {w w' : World} (h : Frame S w w') {b o : Nat} {v : Value} (hc : w.cell? ⟨b, o, none⟩ = some v) (hn : ¬ S b) : w'.cell? ⟨b, o, none⟩ = some v :=
  (World.cell?_of_block (w := w) (a := ⟨b, o, none⟩) (h.block b (World.block_lt_of_cell? _ _ hc) hn)).trans hc
theorem Frame.heap {S : Nat → Prop} {w w' : World} (h : Frame S w w') {b : Nat} {o : Obj} (hc : w.heap[b]? = some o) (hn : ¬ S b) : w'.heap[b]? = some o :=
  (h.block b (Array.getElem?_eq_some_iff.1 hc).1 hn).trans hc
theorem Frame.row {S : Nat → Prop} {w w' : World} (h : Frame S w w') {b n : Nat} {zs : List Int} (r : BRow w (some ⟨b, 0, none⟩) n zs) (hn : ¬ S b) : BRow w' (some ⟨b, 0, none⟩) n zs := by
  refine ⟨r.1, fun h0 => ?_⟩
  obtain ⟨b', off', hx, hc⟩ := r.2 h0
  obtain ⟨rfl, rfl⟩ : b = b' ∧ 0 = off' := by simpa using hx
  exact ⟨b, 0, rfl, fun i hi => h.cell (hc i hi) hn⟩
theorem Frame.owns {S : Nat → Prop} {w w' : World} (h : Frame S w w') {base : Nat} {e : TypeId} {size n : Nat} {v : Value} {xs : List Value} (ho : w.ownsRow base e size v n xs) (hn : ∀ k, v.ownBlock = some k → ¬ S k) : w'.ownsRow base e size v n xs := by
  refine ⟨ho.1, ?_⟩
  rcases ho.2 with hl | ⟨g, cap, cur, rfl, hb, hg, rest⟩
  · exact Or.inl hl
  · exact Or.inr ⟨g, cap, cur, rfl, hb, h.heap hg (hn g rfl), rest⟩

/-- A call of a Go function as one step of a region that draws. -/
theorem step_call {ops : Array Oper} {o : Oper} {a : Act} {w : World} {K : Act → World → Prop} {Q : Exit → Act → World → Prop} {E : Prop}
    (hg : o.guard = none) (f : Nat) (xs : Array Operand) (ts : Array TypeId) (hop : o.op = Op.call { callee := Callee.value (Operand.func f), args := xs, argTypes := ts })
    (vs : Array Value) (hv : xs.map a.eval = vs) (he : ∀ args w, (callFunc f args).run Tryf.prog w = .ok (.enter f args) w) (r : Value) (S : World → Prop)
    (hc : Calls Tryf.prog f vs w fun e w' => e = .returned r ∧ S w') (hK : ∀ w', S w' → K (a.put o.dst r) w') :
    if Region.wanted o (yielded ops a.tmps) = true then Oper.wp Tryf.prog o a w K Q else E := by
  have hw : Region.wanted o (yielded ops a.tmps) = true := by simp [Region.wanted, hg]
  rw [if_pos hw]
  unfold Oper.wp
  have e1 : (execOp a.eval o).run Tryf.prog w = .ok (.enter f vs) w := by
    have ef : a.eval (Operand.func f) = .func (.func f) #[] #[] := rfl
    simp [execOp, hop, resolve, invoke, Deferred.ofValue, ef, hv, he]
  rw [e1, Oper.upon_enter]
  refine hc.mono ?_
  rintro e w' ⟨rfl, hS⟩
  exact hK w' hS

theorem enters21 : ∀ args w, (callFunc 21 args).run Tryf.prog w = .ok (.enter 21 args) w := by
  have hname : (Tryf.f21.name == "runtime.NumGoroutine") = false := by kernel_rfl
  have hb : Tryf.f21.body.isNone = false := by kernel_rfl
  intro args w
  have h1 : Tryf.f21.name ≠ "runtime.NumGoroutine" := by simpa using hname
  have hb' : Tryf.f21.body ≠ none := by intro h; rw [h] at hb; simp at hb
  simp [callFunc, Tryf.func21, h1, hb', mark]
theorem enters46 : ∀ args w, (callFunc 46 args).run Tryf.prog w = .ok (.enter 46 args) w := by
  have hname : (Tryf.f46.name == "runtime.NumGoroutine") = false := by kernel_rfl
  have hb : Tryf.f46.body.isNone = false := by kernel_rfl
  intro args w
  have h1 : Tryf.f46.name ≠ "runtime.NumGoroutine" := by simpa using hname
  have hb' : Tryf.f46.body ≠ none := by intro h; rw [h] at hb; simp at hb
  simp [callFunc, Tryf.func46, h1, hb', mark]
theorem enters47 : ∀ args w, (callFunc 47 args).run Tryf.prog w = .ok (.enter 47 args) w := by
  have hname : (Tryf.f47.name == "runtime.NumGoroutine") = false := by kernel_rfl
  have hb : Tryf.f47.body.isNone = false := by kernel_rfl
  intro args w
  have h1 : Tryf.f47.name ≠ "runtime.NumGoroutine" := by simpa using hname
  have hb' : Tryf.f47.body ≠ none := by intro h; rw [h] at hb; simp at hb
  simp [callFunc, Tryf.func47, h1, hb', mark]

theorem Tryf.info22 : (Tryf.prog.info? 22).map (fun i => (i.zero, i.size, i.bytes)) = some (some (.slice none 0 0), 1, 24) := by kernel_rfl
theorem Tryf.info64 : (Tryf.prog.info? 64).map (fun i => (i.zero, i.size, i.bytes)) = some (some (.agg #[.int .u32 0, .int .u64 0, .slice none 0 0]), 3, 40) := by kernel_rfl

/-- The replicas' slices: c of them, s bytes each, from q0 on. -/
def repCells (G q0 s : Nat) : Nat → List Value
  | 0 => []
  | c + 1 => repCells G q0 s c ++ [.slice (some ⟨G, q0 + c * s, none⟩) s s]
theorem repCells_length (G q0 s c : Nat) : (repCells G q0 s c).length = c := by
  induction c with
  | zero => rfl
  | succ m ih => simp [repCells, ih]
theorem repCells_at (G q0 s : Nat) {c i : Nat} (h : i < c) : (repCells G q0 s c)[i]? = some (.slice (some ⟨G, q0 + i * s, none⟩) s s) := by
  induction c with
  | zero => omega
  | succ m ih =>
    have hl := repCells_length G q0 s m
    by_cases e : i = m
    · subst e
      rw [repCells, List.getElem?_append_right (by omega), hl, Nat.sub_self]; rfl
    · rw [repCells, List.getElem?_append_left (by omega)]; exact ih (by omega)
end Go.Proofs.Qxb6604610aFmt
