/-
  fmt.Errorf (28) over one slice of bytes: an error comes back, whatever its text.
-/
import Derived.Test.Qxb6003322aFmtLeaf
import Derived.Lib.AppendStr
namespace Go.Proofs.Qxb6003322aFmt
open Go.RowKit Go.Extern.Stop Go.Stop Go.Extern

theorem call34 (args : Array Value) (w : World) : (callFunc 34 args).run Tryf.prog w = ((FmtStop.errorf #[9, 67] #[29] args).run Tryf.prog w).andThen fun v w' => .ok (.value v) w' :=
  run_callFunc_extern Tryf.func34 (by kernel_rfl) (by kernel_rfl) (by kernel_rfl) (by kernel_rfl) args w
theorem fguard (name : String) (w : World) : (FmtStop.guard name).run Tryf.prog w = .ok () w := by kernel_rfl
abbrev fmtS : ByteArray := ⟨#[110, 111, 100, 101, 32, 105, 100, 32, 37, 115, 32, 105, 115, 32, 110, 111, 116, 32, 98, 101, 108, 111, 119, 32, 50, 94, 54, 51]⟩
abbrev fmtQ : ByteArray := ⟨#[37, 113, 32, 105, 115, 32, 110, 111, 116, 32, 97, 32, 110, 111, 100, 101, 32, 105, 100, 44, 32, 97, 32, 110, 111, 110, 45, 110, 101, 103, 97, 116, 105, 118, 101, 32, 100, 101, 99, 105, 109, 97, 108, 32, 105, 110, 116, 101, 103, 101, 114]⟩
theorem fpS (w : World) : (FmtDoors.printed fmtS 1).run Tryf.prog w = .ok [(0, 115, false)] w := by kernel_rfl
theorem fpQ (w : World) : (FmtDoors.printed fmtQ 1).run Tryf.prog w = .ok [(0, 113, false)] w := by kernel_rfl
theorem ptr71 (w : World) : (FmtStop.ptrTo "errors.errorString").run Tryf.prog w = .ok 71 w := by kernel_rfl
theorem elem71 (w : World) : (elemOf 71).run Tryf.prog w = .ok 73 w := by kernel_rfl
theorem val5 (z : Int) (w : World) : (FmtStop.value "fmt.errorf" FmtStop.depth 5 [.int .u8 z]).run Tryf.prog w = .ok (Go.Extern.Stop.digits 8 (z % 2 ^ 64).toNat) w := by kernel_rfl
theorem vals5 (w : World) : ∀ zs : List Int, ∃ l, ((zs.map (fun z => Value.int .u8 z)).mapM fun c => FmtStop.value "fmt.errorf" FmtStop.depth 5 [c]).run Tryf.prog w = .ok l w
  | [] => ⟨[], by simp⟩
  | z :: zs => by
    obtain ⟨l, hl⟩ := vals5 w zs
    exact ⟨_, by simp only [List.map_cons, List.mapM_cons, Sem.run_bind, val5, Result.andThen, hl]; rfl⟩

theorem op22 (verb : UInt8) (hv : verb = 115 ∨ verb = 113) (x : Addr) (n c : Nat) (w : World) (cs : Array Value) (l : List (List UInt8)) (h : (loadCells x n).run Tryf.prog w = .ok cs w)
    (hm : (cs.toList.mapM fun c => FmtStop.value "fmt.errorf" FmtStop.depth 5 [c]).run Tryf.prog w = .ok l w) :
    ∃ r, (FmtStop.operand "fmt.errorf" true verb false (.iface 22 (.slice (some x) n c))).run Tryf.prog w = .ok r w := by
  obtain ⟨ts, h1⟩ : ∃ ts, (typeStr 22).run Tryf.prog w = .ok ts w := ⟨String.ofList [Char.ofNat 91, Char.ofNat 93, Char.ofNat 117, Char.ofNat 105, Char.ofNat 110, Char.ofNat 116, Char.ofNat 56], by kernel_rfl⟩
  have hb : (FmtStop.bare (FmtStop.asked true verb false) 22).run Tryf.prog w = .ok true w := by rcases hv with rfl | rfl <;> kernel_rfl
  have hs : (FmtStop.scalar 5).run Tryf.prog w = .ok true w := by kernel_rfl
  have hw : (Tryf.prog.funcs.any fun f => f.name == FmtStop.writeWord) = true := by kernel_rfl
  have hby : (isByte 5).run Tryf.prog w = .ok true w := by kernel_rfl
  have hw' : ¬ ∀ (i : Nat) (x : i < Tryf.prog.funcs.size), ¬ Tryf.prog.funcs[i].name = FmtStop.writeWord := by
    intro hall
    rw [Array.any_eq_true] at hw
    obtain ⟨i, hi, he⟩ := hw
    exact hall i hi (by simpa using he)
  have hsh : (FmtStop.shape "fmt.errorf" (FmtStop.asked true verb false) FmtStop.depth 5).run Tryf.prog w = .ok (FmtStop.intCode .u8 :: FmtStop.pack "uint8".toUTF8.data.toList) w := by rcases hv with rfl | rfl <;> kernel_rfl
  rcases hv with rfl | rfl
  · simp [FmtStop.operand, h1, hb, hs, hw', hsh, hby, h, hm]
  · simp [FmtStop.operand, h1, hb, hs, hw', hsh, hby, h, hm]
/-- n bytes lie behind the address. -/
def Some8 (w : World) (b off n : Nat) : Prop := ∀ i, i < n → ∃ z : Int, w.cell? ⟨b, off + i, none⟩ = some (.int .u8 z)
theorem Some8.pick {w : World} {b off n : Nat} (h : Some8 w b off n) : ∃ g : Nat → Int, ∀ i, i < n → w.cell? ⟨b, off + i, none⟩ = some (.int .u8 (g i)) := by
  refine ⟨fun i => if hi : i < n then Classical.choose (h i hi) else 0, fun i hi => ?_⟩
  simp only [dif_pos hi]
  exact Classical.choose_spec (h i hi)
theorem at_plain (b off j : Nat) : (⟨b, off, none⟩ : Addr).add j = ⟨b, off + j, none⟩ := by unfold Addr.add; split <;> simp_all
/-- They read as an operand. -/
theorem opRow (verb : UInt8) (hv : verb = 115 ∨ verb = 113) (b off n c : Nat) (w : World) (hr : Some8 w b off n) :
    ∃ r, (FmtStop.operand "fmt.errorf" true verb false (.iface 22 (.slice (some ⟨b, off, none⟩) n c))).run Tryf.prog w = .ok r w := by
  obtain ⟨g, hg⟩ := hr.pick
  have hl := run_loadCells (P := Tryf.prog) w ⟨b, off, none⟩ n (fun j => .int .u8 (g j)) (fun j hj => by rw [at_plain]; exact hg j hj)
  obtain ⟨l, hm⟩ := vals5 w ((List.range n).map g)
  refine op22 verb hv _ n c w _ l hl ?_
  rw [List.map_map] at hm
  exact hm
theorem errS (g : Nat) (v : Value) (w : World) (c0 : w.cell? ⟨g, 0, none⟩ = some v) (r : List UInt8 × List UInt8) (hr : (FmtStop.operand "fmt.errorf" true 115 false v).run Tryf.prog w = .ok r w) :
    ∃ s : ByteArray, (callFunc 34 #[.string fmtS, .slice (some ⟨g, 0, none⟩) 1 1]).run Tryf.prog w = .ok (.value (.iface 71 (.pointer (some ⟨w.heap.size, 0, none⟩)))) ((w.alloc (.cells #[.string s] 73)).drew) := by
  rw [call34, FmtStop.errorf_lit]
  simp [fguard, fpS, hr, ptr71, elem71, go_sem, c0]
  exact ⟨_, rfl⟩
theorem errQ (g : Nat) (v : Value) (w : World) (c0 : w.cell? ⟨g, 0, none⟩ = some v) (r : List UInt8 × List UInt8) (hr : (FmtStop.operand "fmt.errorf" true 113 false v).run Tryf.prog w = .ok r w) :
    ∃ s : ByteArray, (callFunc 34 #[.string fmtQ, .slice (some ⟨g, 0, none⟩) 1 1]).run Tryf.prog w = .ok (.value (.iface 71 (.pointer (some ⟨w.heap.size, 0, none⟩)))) ((w.alloc (.cells #[.string s] 73)).drew) := by
  rw [call34, FmtStop.errorf_lit]
  simp [fguard, fpQ, hr, ptr71, elem71, go_sem, c0]
  exact ⟨_, rfl⟩

set_option maxHeartbeats 1000000 in
theorem errorfS (g b off n c : Nat) (w : World) (c0 : w.cell? ⟨g, 0, none⟩ = some (.iface 22 (.slice (some ⟨b, off, none⟩) n c))) (hr : Some8 w b off n) :
    Calls Tryf.prog 28 #[.string fmtS, .slice (some ⟨g, 0, none⟩) 1 1] w fun e w' => (∃ p, e = .returned (.iface 71 (.pointer (some p)))) ∧ Below w.heap.size w w' := by
  obtain ⟨r, ho⟩ := opRow 115 (Or.inl rfl) b off n c w hr
  obtain ⟨s, hc⟩ := errS g _ w c0 r ho
  clear ho hr
  go_enter Tryf.func28, Tryf.ntmps28
  go_wp2
  go_ret
  exact ⟨⟨_, rfl⟩, ((Below.refl _ _).alloc (Nat.le_refl _) _).drew⟩
set_option maxHeartbeats 1000000 in
theorem errorfQ (g b off n c : Nat) (w : World) (c0 : w.cell? ⟨g, 0, none⟩ = some (.iface 22 (.slice (some ⟨b, off, none⟩) n c))) (hr : Some8 w b off n) :
    Calls Tryf.prog 28 #[.string fmtQ, .slice (some ⟨g, 0, none⟩) 1 1] w fun e w' => (∃ p, e = .returned (.iface 71 (.pointer (some p)))) ∧ Below w.heap.size w w' := by
  obtain ⟨r, ho⟩ := opRow 113 (Or.inr rfl) b off n c w hr
  obtain ⟨s, hc⟩ := errQ g _ w c0 r ho
  clear ho hr
  go_enter Tryf.func28, Tryf.ntmps28
  go_wp2
  go_ret
  exact ⟨⟨_, rfl⟩, ((Below.refl _ _).alloc (Nat.le_refl _) _).drew⟩

set_option maxHeartbeats 1000000 in
theorem clip_short (b off n c : Nat) (w : World) (hn : n ≤ 40) : Calls Tryf.prog 30 #[.slice (some ⟨b, off, none⟩) n c] w fun e w' => e = .returned (.slice (some ⟨b, off, none⟩) n c) ∧ w = w' := by
  have h1 : (n : Int) ≤ 40 := by omega
  go_enter Tryf.func30, Tryf.ntmps30
  go_wp2
  go_ret
  exact ⟨rfl, rfl⟩
theorem wpList_append_run {P : Program} {w : World} {ops : Array Oper} {rest : List Oper} {o : Oper} {a : Act} {Q : Exit → Act → World → Prop} (hgd : o.guard = none) (sl x : Operand) (t u : TypeId)
    (ho : o.op = .call { callee := .builtin .append, args := #[sl, x], argTypes := #[t, u] }) (v s : Value) (hs : a.eval sl = v) (hx : a.eval x = s) (v' : Value) (w' : World)
    (hr : (Builtin.append_ #[t, u] o.type #[v, s]).run P w = .ok v' w') (h : wpList P ops Q rest (a.put o.dst v') w') : wpList P ops Q (o :: rest) a w := by
  refine wpList_plain hgd fun K hK => ?_
  unfold Oper.wp execOp
  simp only [ho, resolve, invoke, builtin, Sem.run_bind, Sem.run_pure, Result.andThen_ok, List.map_toArray, List.map_cons, List.map_nil, hs, hx, hr]
  exact hK _ _ h
abbrev dots : ByteArray := ⟨#[46, 46, 46]⟩
/-- What clip hands back: bytes, in memory. -/
def ClipOut (w : World) (e : Ending) (w' : World) : Prop := ∃ g o m k, e = .returned (.slice (some ⟨g, o, none⟩) m k) ∧ Some8 w' g o m ∧ Below w.heap.size w w'
set_option maxHeartbeats 1000000 in
theorem clip_long (b off n c : Nat) (w : World) (hn : 40 < n) (hnc : n ≤ c) (hr : Some8 w b off n) : Calls Tryf.prog 30 #[.slice (some ⟨b, off, none⟩) n c] w fun e w' => ClipOut w e w' := by
  obtain ⟨i0, hi, hz0, hz1, hz2⟩ := info_parts Tryf.info5
  obtain ⟨f, hf⟩ := hr.pick
  have h1 : ¬ (n : Int) ≤ 40 := by omega
  have h2 : (40 : Int) ≤ (c : Int) := by omega
  have hap := Lib.run_append_grow_string (P := Tryf.prog) w 22 9 22 5 i0 _ Tryf.underlying22 Tryf.underlying9 hi hz0 ⟨b, off, none⟩ 40 40 ((List.range 40).map fun j => .int .u8 (f j)) (by simp [hz1])
    (fun j v hj => by
      rw [at_plain]
      have hl : j < 40 := by
        have := (List.getElem?_eq_some_iff.1 hj).1
        simpa using this
      simp [List.getElem?_map, List.getElem?_range hl] at hj
      rw [← hj]
      exact hf j (by omega)) dots (by decide) (by decide) (by rw [hz2]; decide)
  obtain ⟨cs, hcs⟩ : ∃ x, x = (((List.range 40).map fun j => Value.int .u8 (f j)).toArray ++ (Lib.strCells dots).toArray ++ Builtin.zeroCells (Value.int .u8 0).cells (grownCap w (40 + dots.size) 40 5 - (40 + dots.size))) := ⟨_, rfl⟩
  rw [← hcs] at hap
  have hh := heap_alloc_new w.drew (.cells cs 5)
  have hb : Below w.heap.size w (w.drew.alloc (.cells cs 5)) := (Below.refl _ w).drew.alloc (Nat.le_refl _) _
  obtain ⟨wD, hwD⟩ : ∃ x, x = w.drew.alloc (.cells cs 5) := ⟨_, rfl⟩
  rw [← hwD] at hap hb hh
  have h8 : Some8 wD w.heap.size 0 43 := by
    intro i hi
    rw [Nat.zero_add, cell_of_row wD w.heap.size i _ 5 (0, 0) hh, hcs, Array.getElem?_append_left (by simp [Lib.strCells]; omega)]
    by_cases h : i < 40
    · exact ⟨f i, by rw [Array.getElem?_append_left (by simp; omega)]; simp [h]⟩
    · obtain rfl | rfl | rfl : i = 40 ∨ i = 41 ∨ i = 42 := by omega
      · exact ⟨46, by simp [Lib.strCells]⟩
      · exact ⟨46, by simp [Lib.strCells]⟩
      · exact ⟨46, by simp [Lib.strCells]⟩
  clear hwD hf hr hh hcs
  go_enter Tryf.func30, Tryf.ntmps30
  go_wp2_with (at_builtin; refine wpList_append_run rfl (.tmp 8) (.const (.string dots)) 22 9 rfl _ _ rfl rfl _ _ hap ?_)
  go_ret
  exact ⟨_, 0, _, _, rfl, h8, hb⟩
theorem clip_any (b off n c : Nat) (w : World) (hnc : n ≤ c) (hr : Some8 w b off n) : Calls Tryf.prog 30 #[.slice (some ⟨b, off, none⟩) n c] w fun e w' => ClipOut w e w' := by
  by_cases h : n ≤ 40
  · refine (clip_short b off n c w h).mono ?_
    rintro e w' ⟨rfl, rfl⟩
    exact ⟨b, off, n, c, rfl, hr, Below.refl _ _⟩
  · exact clip_long b off n c w (by omega) hnc hr
end Go.Proofs.Qxb6003322aFmt
