/-
  sort.Search (42) with place$1 (43); place (37); of (30).
-/
import Derived.Test.Qxb6604485aParts
import Derived.Deep.RegionWith
import Derived.Deep.LoopGhost
namespace Go.Proofs.Qxb6604485a
open Go.RowKit

/-- A call of a method without arguments on an interface value whose dynamic type is known: one step of a region that draws. -/
theorem step_invoke {P : Program} {ops : Array Oper} {o : Oper} {a : Act} {w : World} {K : Act → World → Prop} {Q : Exit → Act → World → Prop} {E : Prop}
    (hw : Region.wanted o (yielded ops a.tmps) = true) (t : Operand) (nm : String) (hop : o.op = Op.call { callee := Callee.invoke t nm, args := #[], argTypes := #[] })
    (T : TypeId) (v : Value) (hv : a.eval t = .iface T v) (f : Nat) (hm : ∀ w, (method (P.types.size + Made.depth) T v nm).run P w = .ok (f, v) w)
    (he : ∀ args w, (callFunc f args).run P w = .ok (.enter f args) w) (r : Value) (w1 : World) (hc : Calls P f #[v] w fun e w' => e = .returned r ∧ w' = w1)
    (hK : K (a.put o.dst r) w1) :
    if Region.wanted o (yielded ops a.tmps) = true then Oper.wp P o a w K Q else E := by
  rw [if_pos hw]
  unfold Oper.wp
  have e1 : (execOp a.eval o).run P w = .ok (.enter f #[v]) w := by
    simp [execOp, hop, resolve, invoke, callMethod, hv]
    simp [hm, Result.andThen, he]
  rw [e1, Oper.upon_enter]
  refine hc.mono ?_
  rintro e w' ⟨rfl, rfl⟩
  exact hK

theorem wpList_invoke {P : Program} {ops : Array Oper} {rest : List Oper} {o : Oper} {a : Act} {w : World} {Q : Exit → Act → World → Prop}
    (hw : Region.wanted o (yielded ops a.tmps) = true) (t : Operand) (nm : String) (hop : o.op = Op.call { callee := Callee.invoke t nm, args := #[], argTypes := #[] })
    (T : TypeId) (v : Value) (hv : a.eval t = .iface T v) (f : Nat) (hm : ∀ w, (method (P.types.size + Made.depth) T v nm).run P w = .ok (f, v) w)
    (he : ∀ args w, (callFunc f args).run P w = .ok (.enter f args) w) (r : Value) (w1 : World) (hc : Calls P f #[v] w fun e w' => e = .returned r ∧ w' = w1)
    (hK : wpList P ops Q rest (a.put o.dst r) w1) :
    wpList P ops Q (o :: rest) a w :=
  wpList_step fun _ hK' => step_invoke hw t nm hop T v hv f hm he r w1 hc (hK' _ _ hK)

theorem ret_int {k : IntKind} {a b : Int} (h : a = b) : Ending.returned (.int k a) = .returned (.int k b) := by rw [h]

theorem key_any (x m : Int) (w : World) :
    Calls Try.prog 95 #[.agg #[.int .i64 x, .int .i64 m]] w fun e w' => e = .returned (.int .i64 x) ∧ w' = w.alloc (.cells #[.int .i64 x, .int .i64 m] 26) := by
  go_enter Try.func95, Try.ntmps95
  go_wp2
  go_ret
  exact ⟨rfl, rfl⟩

theorem enters95 : ∀ args w, (callFunc 95 args).run Try.prog w = .ok (.enter 95 args) w := by
  have hname : (Try.f95.name == "runtime.NumGoroutine") = false := by kernel_rfl
  have hb : Try.f95.body.isNone = false := by kernel_rfl
  intro args w
  have h1 : Try.f95.name ≠ "runtime.NumGoroutine" := by simpa using hname
  have hb' : Try.f95.body ≠ none := by intro h; rw [h] at hb; simp at hb
  simp [callFunc, Try.func95, h1, hb', mark]

set_option maxHeartbeats 400000 in
theorem clo_any (bs bk b n cap i : Nat) (x m key : Int) (W : World) (hi : i < n)
    (hs : W.cell? ⟨bs, 0, none⟩ = some (.slice (some ⟨b, 0, none⟩) n cap)) (hk : W.cell? ⟨bk, 0, none⟩ = some (.int .i64 key))
    (c0 : W.cell? ⟨b, i * 2, none⟩ = some (.int .i64 x)) (c1 : W.cell? ⟨b, i * 2 + 1, none⟩ = some (.int .i64 m)) :
    Calls Try.prog 43 (#[.int .i64 i] ++ #[.pointer (some ⟨bs, 0, none⟩), .pointer (some ⟨bk, 0, none⟩)]) W fun e w' => e = .returned (.bool (decide (key ≤ x))) ∧ Below W.heap.size W w' := by
  have hiz : (i : Int) < (n : Int) := by omega
  have hlk : bk < W.heap.size := World.block_lt_of_cell? _ _ hk
  go_enter Try.func43, Try.ntmps43
  go_wp2
  go_region_law (refine step_invoke rfl (.tmp 9) _ rfl 26 (.agg #[.int .i64 x, .int .i64 m]) rfl 95 (by intro w; kernel_rfl) enters95 (.int .i64 x) _ (key_any x m _) ?_)
  all_goals go_wp2
  all_goals go_ret
  all_goals exact ⟨by first | rfl | simp, ((Below.refl _ _).alloc (Nat.le_refl _) _).drew⟩

/-- How many of the first n keys lie below key. -/
def cntB (xs : List Int) (key : Int) : Nat → Nat
  | 0 => 0
  | n + 1 => cntB xs key n + (if xs.getD n 0 < key then 1 else 0)
theorem cntB_le (xs : List Int) (key : Int) (n : Nat) : cntB xs key n ≤ n := by
  induction n with
  | zero => exact Nat.le_refl _
  | succ m ih => simp only [cntB]; split <;> omega
theorem cntB_eq {xs : List Int} {key : Int} {n lo : Nat} (hl : lo ≤ n) (h1 : ∀ t, t < lo → xs.getD t 0 < key) (h2 : ∀ t, lo ≤ t → t < n → ¬ xs.getD t 0 < key) : cntB xs key n = lo := by
  induction n generalizing lo with
  | zero => simp only [cntB]; omega
  | succ m ih =>
    by_cases e : lo = m + 1
    · subst e
      rw [cntB, if_pos (h1 m (by omega)), ih (Nat.le_refl _) (fun t ht => h1 t (by omega)) (fun t _ _ => by omega)]
    · rw [cntB, if_neg (h2 m (by omega) (by omega)), ih (by omega) h1 (fun t a b => h2 t a (by omega)), Nat.add_zero]

/-- What the search is told of the parts in the world W: the row's cells. -/
def Sees (W : World) (bs bk b n cap : Nat) (xs ms : List Int) (key : Int) : Prop :=
  W.cell? ⟨bs, 0, none⟩ = some (.slice (some ⟨b, 0, none⟩) n cap) ∧ W.cell? ⟨bk, 0, none⟩ = some (.int .i64 key) ∧ PartsAt W b n xs ms

theorem Sees.below {W W' : World} {bs bk b n cap : Nat} {xs ms : List Int} {key : Int} (h : Sees W bs bk b n cap xs ms key) (hb : Below W.heap.size W W') : Sees W' bs bk b n cap xs ms key :=
  ⟨(hb.cell (p := ⟨bs, 0, none⟩) (World.block_lt_of_cell? _ _ h.1)).trans h.1, (hb.cell (p := ⟨bk, 0, none⟩) (World.block_lt_of_cell? _ _ h.2.1)).trans h.2.1, h.2.2.below hb h.2.2.1⟩

theorem clo_sees (bs bk b n cap i : Nat) (xs ms : List Int) (key : Int) (W : World) (hi : i < n) (h : Sees W bs bk b n cap xs ms key) :
    Calls Try.prog 43 (#[.int .i64 i] ++ #[.pointer (some ⟨bs, 0, none⟩), .pointer (some ⟨bk, 0, none⟩)]) W fun e w' => e = .returned (.bool (decide (key ≤ xs.getD i 0))) ∧ Below W.heap.size W w' :=
  clo_any bs bk b n cap i _ _ key W hi h.1 h.2.1 (by rw [Nat.mul_comm]; exact (h.2.2.2 i hi).1) (by rw [Nat.mul_comm]; exact (h.2.2.2 i hi).2)

set_option maxHeartbeats 1000000 in
theorem search_any (bs bk b n cap : Nat) (xs ms : List Int) (key : Int) (w : World) (hn : n ≤ 65536) (h : Sees w bs bk b n cap xs ms key) (HA : Hid (ascB xs n = true)) :
    Calls Try.prog 42 #[.int .i64 n, .func (.func 43) #[] #[.pointer (some ⟨bs, 0, none⟩), .pointer (some ⟨bk, 0, none⟩)]] w fun e w' => e = .returned (.int .i64 (cntB xs key n : Nat)) ∧ Below w.heap.size w w' := by
  go_enter Try.func42, Try.ntmps42
  go_wp2
  go_loopg [5, 6] n (fun kx s5 s6 wr => ∃ lo hi : Nat, s5 = .int .i64 lo ∧ s6 = .int .i64 hi ∧ lo ≤ hi ∧ hi ≤ n ∧ hi - lo ≤ kx ∧ Below w.heap.size w wr ∧
    Hid ((∀ t, t < lo → xs.getD t 0 < key) ∧ (∀ t, hi ≤ t → t < n → key ≤ xs.getD t 0)))
  case atStart => exact ⟨0, n, rfl, rfl, Nat.zero_le _, Nat.le_refl _, by omega, Below.refl _ _, (⟨fun t ht => absurd ht (Nat.not_lt_zero _), fun t h1 h2 => by omega⟩ : (∀ t, t < 0 → xs.getD t 0 < key) ∧ (∀ t, n ≤ t → t < n → key ≤ xs.getD t 0))⟩
  case round =>
    obtain ⟨lo, hi, rfl, rfl, hlh, hin, hg, hb, I⟩ := hrel
    by_cases hlt : lo < hi
    · have hc := clo_sees bs bk b n cap ((lo + hi) / 2) xs ms key wr (by omega) (h.below hb)
      rw [show (((lo + hi) / 2 : Nat) : Int) = ((lo : Int) + (hi : Int)) / 2 by omega] at hc
      have AL := asc_lt HA.out
      by_cases hp : key ≤ xs.getD ((lo + hi) / 2) 0
      · have HP : Hid (∀ t, (lo + hi) / 2 ≤ t → t < n → key ≤ xs.getD t 0) := (by
          intro t h1 h2
          by_cases e : t = (lo + hi) / 2
          · subst e; omega
          · have := AL ((lo + hi) / 2) t (by omega) h2; omega : ∀ t, (lo + hi) / 2 ≤ t → t < n → key ≤ xs.getD t 0)
        rw [decide_eq_true hp] at hc
        clear hp AL
        go_wp2_with (go_at_call 43; refine hc.mono ?_; rintro e w' ⟨rfl, hb'⟩)
        go_roundg ((lo + hi) / 2 - lo)
        case rel => exact ⟨lo, (lo + hi) / 2, rfl, by go_num, by omega, by omega, Nat.le_refl _, hb.trans (hb'.mono hb.size), (⟨I.out.1, HP.out⟩ : (∀ t, t < lo → xs.getD t 0 < key) ∧ (∀ t, (lo + hi) / 2 ≤ t → t < n → key ≤ xs.getD t 0))⟩
        case measure => omega
      · have HP : Hid (∀ t, t < (lo + hi) / 2 + 1 → xs.getD t 0 < key) := (by
          intro t h1
          by_cases e : t = (lo + hi) / 2
          · subst e; omega
          · have := AL t ((lo + hi) / 2) (by omega) (by omega); omega : ∀ t, t < (lo + hi) / 2 + 1 → xs.getD t 0 < key)
        rw [decide_eq_false hp] at hc
        clear hp AL
        go_wp2_with (go_at_call 43; refine hc.mono ?_; rintro e w' ⟨rfl, hb'⟩)
        go_roundg (hi - ((lo + hi) / 2 + 1))
        case rel => exact ⟨(lo + hi) / 2 + 1, hi, by go_num, rfl, by omega, by omega, Nat.le_refl _, hb.trans (hb'.mono hb.size), (⟨HP.out, I.out.2⟩ : (∀ t, t < (lo + hi) / 2 + 1 → xs.getD t 0 < key) ∧ (∀ t, hi ≤ t → t < n → key ≤ xs.getD t 0))⟩
        case measure => omega
    · have e : lo = hi := by omega
      subst e
      have hcn : cntB xs key n = lo := cntB_eq hin I.out.1 (fun t h1 h2 => by have := I.out.2 t h1 h2; omega)
      have HC : Hid (cntB xs key n = lo) := hcn
      clear hcn
      go_wp2
      go_ret
      exact ⟨ret_int (by rw [HC.out]), hb⟩

end Go.Proofs.Qxb6604485a
