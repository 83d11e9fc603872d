/-
  fmt's stop as this road meets it: a string comes back, whatever its text; one draw.
-/
import Derived.Test.Qxb6604610aFmtProg
import Derived.WalkKit
import Derived.WalkSpells
import Derived.WalkLawsBesides
import Derived.Deep.QuietTactic
import Derived.BigQuiet
import Derived.Deep.RegionHeld3
import Derived.Deep.DrawnRows
import Derived.Deep.DeepFit
import Derived.Deep.DeepMust
import Derived.Stop.CallBack
import Derived.Stop.IfaceNil
namespace Go.Proofs.Qxb6604610aFmt
open Go.RowKit Go.Extern.Stop Go.Stop Go.Extern

theorem call37 (args : Array Value) (w : World) : (callFunc 37 args).run Tryf.prog w = ((FmtStop.sprintf #[9, 98] #[9] args).run Tryf.prog w).andThen fun v w' => .ok (.value v) w' :=
  run_callFunc_extern Tryf.func37 (by kernel_rfl) (by kernel_rfl) (by kernel_rfl) (by kernel_rfl) args w
theorem fguard (name : String) (w : World) : (FmtStop.guard name).run Tryf.prog w = .ok () w := by kernel_rfl
/-- 'a length of %d points past the %d bytes left in its enclosing structure' -/
abbrev fmtA : ByteArray := ⟨#[97, 32, 108, 101, 110, 103, 116, 104, 32, 111, 102, 32, 37, 100, 32, 112, 111, 105, 110, 116, 115, 32, 112, 97, 115, 116, 32, 116, 104, 101, 32, 37, 100, 32, 98, 121, 116, 101, 115, 32, 108, 101, 102, 116, 32, 105, 110, 32, 105, 116, 115, 32, 101, 110, 99, 108, 111, 115, 105, 110, 103, 32, 115, 116, 114, 117, 99, 116, 117, 114, 101]⟩
/-- 'a field of %d bytes runs past the %d bytes left in its structure' -/
abbrev fmtB : ByteArray := ⟨#[97, 32, 102, 105, 101, 108, 100, 32, 111, 102, 32, 37, 100, 32, 98, 121, 116, 101, 115, 32, 114, 117, 110, 115, 32, 112, 97, 115, 116, 32, 116, 104, 101, 32, 37, 100, 32, 98, 121, 116, 101, 115, 32, 108, 101, 102, 116, 32, 105, 110, 32, 105, 116, 115, 32, 115, 116, 114, 117, 99, 116, 117, 114, 101]⟩
/-- '%d bytes left over after the end of the structure' -/
abbrev fmtC : ByteArray := ⟨#[37, 100, 32, 98, 121, 116, 101, 115, 32, 108, 101, 102, 116, 32, 111, 118, 101, 114, 32, 97, 102, 116, 101, 114, 32, 116, 104, 101, 32, 101, 110, 100, 32, 111, 102, 32, 116, 104, 101, 32, 115, 116, 114, 117, 99, 116, 117, 114, 101]⟩
theorem fpA : FmtStop.printed? fmtA 2 = some [(0, 100, false), (1, 100, false)] := by kernel_rfl
theorem fpB : FmtStop.printed? fmtB 2 = some [(0, 100, false), (1, 100, false)] := by kernel_rfl
theorem fpC : FmtStop.printed? fmtC 1 = some [(0, 100, false)] := by kernel_rfl
def shape3 : List UInt8 := [5, 3, 0, 0, 0, 0, 0, 0, 0, 105, 110, 116]
theorem op3 (name : String) (x : Int) (w : World) : (FmtStop.operand name false 100 false (.iface 3 (.int .i64 x))).run Tryf.prog w = .ok (shape3, Go.Extern.Stop.digits 8 (x % 2 ^ 64).toNat) w := by kernel_rfl

def shape42 : List UInt8 := [9, 6, 0, 0, 0, 0, 0, 0, 0, 117, 105, 110, 116, 54, 52]

theorem sprintfB (g : Nat) (w : World) (c0 : ∃ x, w.cell? ⟨g, 0, none⟩ = some (.iface 3 (.int .i64 x))) (c1 : ∃ y, w.cell? ⟨g, 1, none⟩ = some (.iface 3 (.int .i64 y))) :
    ∃ s : ByteArray, (callFunc 37 #[.string fmtB, .slice (some ⟨g, 0, none⟩) 2 2]).run Tryf.prog w = .ok (.value (.string s)) w.drew := by
  obtain ⟨x, c0⟩ := c0
  obtain ⟨y, c1⟩ := c1
  rw [call37, FmtStop.sprintf_lit]
  simp [fguard, fpB, op3, go_sem, c0, c1]
theorem sprintfC (g : Nat) (w : World) (c0 : ∃ x, w.cell? ⟨g, 0, none⟩ = some (.iface 3 (.int .i64 x))) :
    ∃ s : ByteArray, (callFunc 37 #[.string fmtC, .slice (some ⟨g, 0, none⟩) 1 1]).run Tryf.prog w = .ok (.value (.string s)) w.drew := by
  obtain ⟨x, c0⟩ := c0
  rw [call37, FmtStop.sprintf_lit]
  simp [fguard, fpC, op3, go_sem, c0]
theorem op42 (name : String) (x : Int) (w : World) : (FmtStop.operand name false 100 false (.iface 42 (.int .u64 x))).run Tryf.prog w = .ok (shape42, Go.Extern.Stop.digits 8 (x % 2 ^ 64).toNat) w := by kernel_rfl
theorem sprintfA (g : Nat) (w : World) (c0 : ∃ x, w.cell? ⟨g, 0, none⟩ = some (.iface 42 (.int .u64 x))) (c1 : ∃ y, w.cell? ⟨g, 1, none⟩ = some (.iface 3 (.int .i64 y))) :
    ∃ s : ByteArray, (callFunc 37 #[.string fmtA, .slice (some ⟨g, 0, none⟩) 2 2]).run Tryf.prog w = .ok (.value (.string s)) w.drew := by
  obtain ⟨x, c0⟩ := c0
  obtain ⟨y, c1⟩ := c1
  rw [call37, FmtStop.sprintf_lit]
  simp [fguard, fpA, op3, op42, go_sem, c0, c1]

theorem ops2 (w : World) (q : Nat) (a b : Value) : ((w.drewN q).alloc (.cells #[a, b] 20)).cell? ⟨w.heap.size, 0, none⟩ = some a ∧ ((w.drewN q).alloc (.cells #[a, b] 20)).cell? ⟨w.heap.size, 1, none⟩ = some b :=
  ⟨World.cell?_alloc_at (w := w.drewN q) #[a, b] 20 w.heap.size 0 rfl, World.cell?_alloc_at (w := w.drewN q) #[a, b] 20 w.heap.size 1 rfl⟩
theorem ops1 (w : World) (q : Nat) (a : Value) : ((w.drewN q).alloc (.cells #[a] 20)).cell? ⟨w.heap.size, 0, none⟩ = some a :=
  World.cell?_alloc_at (w := w.drewN q) #[a] 20 w.heap.size 0 rfl

/-- A call of fmt.Sprintf as one step of a region that draws. -/
theorem step_sprintf {ops : Array Oper} {o : Oper} {a : Act} {w : World} {K : Act → World → Prop} {Q : Exit → Act → World → Prop} {E : Prop}
    (hg : o.guard = none) (f t : Operand) (hop : o.op = Op.call { callee := Callee.value (Operand.func 37), args := #[f, t], argTypes := #[9, 98] })
    (fv : Value) (hf : a.eval f = fv) (tv : Value) (ht : a.eval t = tv) (hrun : ∃ s : ByteArray, (callFunc 37 #[fv, tv]).run Tryf.prog w = .ok (.value (.string s)) w.drew)
    (hK : ∀ s : ByteArray, K (a.put o.dst (.string s)) w.drew) :
    if Region.wanted o (yielded ops a.tmps) = true then Oper.wp Tryf.prog o a w K Q else E := by
  have hw : Region.wanted o (yielded ops a.tmps) = true := by simp [Region.wanted, hg]
  rw [if_pos hw]
  obtain ⟨s, hs⟩ := hrun
  unfold Oper.wp
  have e1 : (execOp a.eval o).run Tryf.prog w = .ok (.value (.string s)) w.drew := by
    have ef : a.eval (Operand.func 37) = .func (.func 37) #[] #[] := rfl
    simp [execOp, hop, resolve, invoke, Deferred.ofValue, hf, ht, ef, hs]
  rw [e1]
  exact hK s

/-! ### The reader in memory -/
/-- A Reader's block: its bytes, where the next read starts, where the bounds end, its fault. -/
def Rd (w : World) (p : Nat) (bv : Value) (off en : Nat) (err : Value) : Prop :=
  w.heap[p]? = some (.cells #[bv, .int .i64 off, .int .i64 en, err] 66 (0, 0))

theorem Rd.lt {w : World} {p : Nat} {bv : Value} {off en : Nat} {err : Value} (h : Rd w p bv off en err) : p < w.heap.size := (Array.getElem?_eq_some_iff.1 h).1
theorem Rd.cells {w : World} {p : Nat} {bv : Value} {off en : Nat} {err : Value} (h : Rd w p bv off en err) :
    w.cell? ⟨p, 0, none⟩ = some bv ∧ w.cell? ⟨p, 1, none⟩ = some (.int .i64 off) ∧ w.cell? ⟨p, 2, none⟩ = some (.int .i64 en) ∧ w.cell? ⟨p, 3, none⟩ = some err :=
  ⟨by rw [cell_of_row w p 0 _ 66 (0, 0) h]; rfl, by rw [cell_of_row w p 1 _ 66 (0, 0) h]; rfl, by rw [cell_of_row w p 2 _ 66 (0, 0) h]; rfl, by rw [cell_of_row w p 3 _ 66 (0, 0) h]; rfl⟩
theorem Rd.free {w : World} {p : Nat} {bv : Value} {off en : Nat} {err : Value} (h : Rd w p bv off en err) (j : Nat) : w.frozen? ⟨p, j, none⟩ = false := frozen_of_row w p j _ 66 h

/-- Block p apart, what lay in memory lies there as before. -/
structure Only (p : Nat) (w w' : World) : Prop where
  os : w'.os = w.os
  tape : w'.tape = w.tape
  output : w'.output = w.output
  size : w.heap.size ≤ w'.heap.size
  block : ∀ k, k < w.heap.size → k ≠ p → w'.heap[k]? = w.heap[k]?

theorem Only.refl (p : Nat) (w : World) : Only p w w := ⟨rfl, rfl, rfl, Nat.le_refl _, fun _ _ _ => rfl⟩
theorem Only.trans {p : Nat} {a b c : World} (h : Only p a b) (k : Only p b c) : Only p a c :=
  ⟨k.os.trans h.os, k.tape.trans h.tape, k.output.trans h.output, Nat.le_trans h.size k.size, fun i hi hp => (k.block i (Nat.lt_of_lt_of_le hi h.size) hp).trans (h.block i hi hp)⟩
theorem Only.of_below {p : Nat} {w w' : World} (h : Below w.heap.size w w') : Only p w w' := ⟨h.os, h.tape, h.output, h.size, fun k hk _ => h.block k hk⟩
theorem Only.below {p : Nat} {w w' : World} (h : Only p w w') {B : Nat} (hB : B ≤ p) (hw : B ≤ w.heap.size) : Below B w w' :=
  ⟨h.os, h.tape, h.output, h.size, fun k hk => h.block k (by omega) (by omega)⟩
theorem Only.alloc {p : Nat} {a w : World} (h : Only p a w) (o : Obj) : Only p a (w.alloc o) := h.trans (Only.of_below ((Below.refl _ w).alloc (Nat.le_refl _) o))
theorem Only.drew {p : Nat} {a w : World} (h : Only p a w) : Only p a w.drew := ⟨h.os, h.tape, h.output, h.size, h.block⟩
theorem Only.drewN {p : Nat} {a w : World} (h : Only p a w) (q : Nat) : Only p a (w.drewN q) := ⟨h.os, h.tape, h.output, h.size, h.block⟩
theorem Only.setCell {p : Nat} {a w : World} (h : Only p a w) (j : Nat) (u : Value) : Only p a (w.setCell ⟨p, j, none⟩ u) :=
  h.trans ⟨rfl, rfl, rfl, by simp, fun k _ hk => Below.heap_setCell w ⟨p, j, none⟩ u k hk⟩

theorem Rd.set {w : World} {p : Nat} {bv : Value} {off en : Nat} {err : Value} (h : Rd w p bv off en err) (j : Nat) (u : Value) :
    (w.setCell ⟨p, j, none⟩ u).heap[p]? = some (.cells (#[bv, .int .i64 off, .int .i64 en, err].setIfInBounds j u) 66 (0, 0)) := heap_setCell_same w p j _ 66 u h
theorem Rd.drewN {w : World} {p : Nat} {bv : Value} {off en : Nat} {err : Value} (h : Rd w p bv off en err) (q : Nat) : Rd (w.drewN q) p bv off en err := h
theorem Rd.drew {w : World} {p : Nat} {bv : Value} {off en : Nat} {err : Value} (h : Rd w p bv off en err) : Rd w.drew p bv off en err := h
theorem Rd.alloc {w : World} {p : Nat} {bv : Value} {off en : Nat} {err : Value} (h : Rd w p bv off en err) (o : Obj) : Rd (w.alloc o) p bv off en err :=
  (Below.heap_alloc w o p h.lt).trans h

/-- A fault recorded in block pe: at offset 'at'. -/
def FaultAt (w : World) (pe : Nat) (k : Nat) : Prop := ∃ s : ByteArray, w.heap[pe]? = some (.cells #[.int .i64 k, .string s] 71 (0, 0))
abbrev faultV (pe : Nat) : Value := .iface 68 (.pointer (some ⟨pe, 0, none⟩))

theorem new_fault (w : World) (p j : Nat) (u : Value) (k : Nat) (s : ByteArray) : ((w.setCell ⟨p, j, none⟩ u).alloc (.cells #[.int .i64 k, .string s] 71)).heap[w.heap.size]? = some (.cells #[.int .i64 k, .string s] 71 (0, 0)) := by
  have e : (w.setCell ⟨p, j, none⟩ u).heap.size = w.heap.size := by simp
  rw [← e]; exact heap_alloc_new _ _

set_option maxHeartbeats 400000 in
theorem fail_any (p off en k : Nat) (bv : Value) (s : ByteArray) (w : World) (h : Rd w p bv off en .nilIface) :
    Calls Tryf.prog 36 #[.pointer (some ⟨p, 0, none⟩), .int .i64 k, .string s] w fun e w' => e = .returned (.tuple #[]) ∧ Rd w' p bv off en (faultV w.heap.size) ∧ FaultAt w' w.heap.size k ∧ Only p w w' := by
  obtain ⟨c0, c1, c2, c3⟩ := h.cells
  have f3 := h.free 3
  have hlt := h.lt
  have HR : Hid (Rd w p bv off en .nilIface) := h
  clear h
  go_enter Tryf.func36, Tryf.ntmps36
  go_wp2
  go_end0
  exact ⟨rfl, (show Rd _ p bv off en (faultV w.heap.size) from HR.out.set 3 _).alloc _, ⟨s, new_fault w p 3 _ k s⟩, ((Only.refl p w).setCell 3 _).alloc _⟩

/-- A fault was met before: nothing happens. -/
theorem take_err (p off en : Nat) (bv : Value) (pe : Nat) (n : Int) (w : World) (h : Rd w p bv off en (faultV pe)) :
    Calls Tryf.prog 38 #[.pointer (some ⟨p, 0, none⟩), .int .i64 n] w fun e w' => e = .returned (.slice none 0 0) ∧ w = w' := by
  obtain ⟨c0, c1, c2, c3⟩ := h.cells
  clear h
  go_enter Tryf.func38, Tryf.ntmps38
  go_wp2
  go_ret
  exact ⟨rfl, rfl⟩

set_option maxHeartbeats 1000000 in
theorem take_past (p off en : Nat) (bv : Value) (n : Int) (w : World) (h : Rd w p bv off en .nilIface) (hoe : off ≤ en) (hen : en ≤ 2097152) (hn : (en : Int) - (off : Int) < n) :
    Calls Tryf.prog 38 #[.pointer (some ⟨p, 0, none⟩), .int .i64 n] w fun e w' => e = .returned (.slice none 0 0) ∧ ∃ pe, Rd w' p bv off en (faultV pe) ∧ FaultAt w' pe off ∧ pe ≠ p ∧ Only p w w' := by
  obtain ⟨c0, c1, c2, c3⟩ := h.cells
  have hlt := h.lt
  have HR : Hid (Rd w p bv off en .nilIface) := h
  clear h
  go_enter Tryf.func38, Tryf.ntmps38
  go_wp2
  go_quiet (fail)
  go_wp2
  go_region_held3 (fun w' => w'.cell? ⟨p, 1, none⟩ = some (.int .i64 off) ∧ w'.cell? ⟨p, 2, none⟩ = some (.int .i64 en)) (go_keep)
    (first | (refine step_sprintf rfl _ (.tmp 39) rfl (.string fmtB) rfl (.slice (some ⟨w.heap.size, 0, none⟩) 2 2) rfl (sprintfB _ _ ⟨_, (ops2 w _ _ _).1⟩ ⟨_, (ops2 w _ _ _).2⟩) ?_; intro s) | (go_at_call 36; refine (fail_any p off en off bv _ _ ?_).mono ?_; exact (Rd.alloc (HR.out.drewN _) _).drew; rintro e w1 ⟨rfl, hr1, hr2, hr3⟩; obtain ⟨-, hk1, hk2, -⟩ := hr1.cells))
  go_wp2
  go_ret
  exact ⟨rfl, _, hr1, hr2, by simp; omega, ((((Only.refl p w).drewN _).alloc _).drew).trans hr3⟩

theorem wrap_small (x : Int) (h0 : -9223372036854775808 ≤ x) (h1 : x < 9223372036854775808) : IntKind.i64.wrap x = x := by
  simp [IntKind.wrap, IntKind.bits, IntKind.signed]
  omega
/-- Where the bytes that a read hands out lie: behind the array's end Go does not point. -/
def cutA (b off n : Nat) : Option Addr := some (if n = 0 then ⟨b, 0, none⟩ else ⟨b, off, none⟩)

theorem wrap_left {off en : Nat} (h : off ≤ en) (hen : en ≤ 2097152) : IntKind.i64.wrap ((en : Int) - (off : Int)) = ((en - off : Nat) : Int) := by
  have e : (en : Int) - (off : Int) = ((en - off : Nat) : Int) := by omega
  rw [e, wrap_small _ (by omega) (by omega)]
theorem cut_pos (b off n : Nat) (h : ¬ n = 0) : Ending.returned (.slice (some ⟨b, off, none⟩) (off + n - off) (off + n - off)) = .returned (.slice (cutA b off n) n n) := by
  simp [cutA, h]
theorem rd_cast {w : World} {p en k : Nat} {bv err : Value} {z : Int} (e : (k : Int) = z) (h : w.heap[p]? = some (.cells #[bv, .int .i64 z, .int .i64 en, err] 66 (0, 0))) : Rd w p bv k en err := by
  unfold Rd; rw [e]; exact h

set_option maxHeartbeats 1000000 in
theorem take_ok (p off en n b len cap : Nat) (w : World) (h : Rd w p (.slice (some ⟨b, 0, none⟩) len cap) off en .nilIface) (hoe : off + n ≤ en) (hec : en ≤ cap) (hen : en ≤ 2097152) :
    Calls Tryf.prog 38 #[.pointer (some ⟨p, 0, none⟩), .int .i64 n] w fun e w' => e = .returned (.slice (cutA b off n) n n) ∧ Rd w' p (.slice (some ⟨b, 0, none⟩) len cap) (off + n) en .nilIface ∧ Only p w w' := by
  obtain ⟨c0, c1, c2, c3⟩ := h.cells
  have f1 := h.free 1
  have hlt := h.lt
  have HR : Hid (Rd w p (.slice (some ⟨b, 0, none⟩) len cap) off en .nilIface) := h
  clear h
  by_cases h0 : n = 0
  · subst h0
    go_enter Tryf.func38, Tryf.ntmps38
    go_wp2
    go_quiet (fail)
    go_wp2
    go_quiet (fail)
    go_wp2
    go_ret
    exact ⟨rfl, show Rd _ p _ off en .nilIface from (HR.out.drewN _).set 1 _, ((Only.refl p w).drewN _).setCell 1 _⟩
  · go_enter Tryf.func38, Tryf.ntmps38
    go_wp2
    go_quiet (fail)
    go_wp2
    go_quiet (fail)
    go_wp2
    go_ret
    exact ⟨cut_pos b off n h0, rd_cast (Int.natCast_add off n) ((HR.out.drewN _).set 1 _), ((Only.refl p w).drewN _).setCell 1 _⟩

set_option maxHeartbeats 1000000 in
theorem rest_ok (p off en b len cap : Nat) (w : World) (h : Rd w p (.slice (some ⟨b, 0, none⟩) len cap) off en .nilIface) (hoe : off ≤ en) (hec : en ≤ cap) (hen : en ≤ 2097152) :
    Calls Tryf.prog 19 #[.pointer (some ⟨p, 0, none⟩)] w fun e w' => e = .returned (.slice (cutA b off (en - off)) (en - off) (en - off)) ∧ Rd w' p (.slice (some ⟨b, 0, none⟩) len cap) en en .nilIface ∧ Only p w w' := by
  obtain ⟨c0, c1, c2, c3⟩ := h.cells
  have hT := take_ok p off en (en - off) b len cap w.drew h.drew (by omega) hec hen
  rw [show off + (en - off) = en by omega, ← wrap_left hoe hen] at hT
  have hz : (0 : Int) ≤ (en : Int) - (off : Int) := by omega
  clear h
  go_enter Tryf.func19, Tryf.ntmps19
  go_wp2
  go_region_with (go_at_call 38; refine hT.mono ?_; rintro e w1 ⟨rfl, hr1, hr2⟩)
  all_goals go_wp2
  all_goals go_ret
  all_goals exact ⟨rfl, hr1, (Only.refl p w).drew.trans hr2⟩
end Go.Proofs.Qxb6604610aFmt
