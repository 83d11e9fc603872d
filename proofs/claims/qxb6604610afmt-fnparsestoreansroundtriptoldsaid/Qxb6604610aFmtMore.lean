/-
  More (15), Finish (16), ZZfault (12), ZZend (13), ZZoff (14), NewReader (10), cloneBytes_b1 (9), eqBytes_b1 (17).
-/
import Derived.Test.Qxb6604610aFmtBase
namespace Go.Proofs.Qxb6604610aFmt
open Go.RowKit Go.Extern.Stop Go.Stop Go.Extern

set_option maxHeartbeats 1000000 in
theorem more_ok (p off en : Nat) (bv : Value) (w : World) (h : Rd w p bv off en .nilIface) :
    Calls Tryf.prog 15 #[.pointer (some ⟨p, 0, none⟩)] w fun e w' => e = .returned (.bool (decide (off < en))) ∧ ∃ q, w' = w.drewN q := by
  obtain ⟨c0, c1, c2, c3⟩ := h.cells
  clear h
  go_enter Tryf.func15, Tryf.ntmps15
  go_wp2
  go_quiet (fail)
  go_wp2
  go_ret
  exact ⟨by simp, _, rfl⟩
set_option maxHeartbeats 1000000 in
theorem more_err (p off en pe : Nat) (bv : Value) (w : World) (h : Rd w p bv off en (faultV pe)) :
    Calls Tryf.prog 15 #[.pointer (some ⟨p, 0, none⟩)] w fun e w' => e = .returned (.bool false) ∧ ∃ q, w' = w.drewN q := by
  obtain ⟨c0, c1, c2, c3⟩ := h.cells
  clear h
  go_enter Tryf.func15, Tryf.ntmps15
  go_wp2
  go_quiet (fail)
  go_wp2
  go_ret
  exact ⟨by simp, _, rfl⟩

set_option maxHeartbeats 1000000 in
theorem finish_ok (p off : Nat) (bv : Value) (w : World) (h : Rd w p bv off off .nilIface) :
    Calls Tryf.prog 16 #[.pointer (some ⟨p, 0, none⟩)] w fun e w' => e = .returned .nilIface ∧ ∃ q, w' = w.drewN q := by
  obtain ⟨c0, c1, c2, c3⟩ := h.cells
  clear h
  go_enter Tryf.func16, Tryf.ntmps16
  go_wp2
  go_quiet (fail)
  go_wp2
  go_ret
  exact ⟨rfl, _, rfl⟩
set_option maxHeartbeats 1000000 in
theorem finish_left (p off en : Nat) (bv : Value) (w : World) (h : Rd w p bv off en .nilIface) (hoe : off < en) (_hen : en ≤ 2097152) :
    Calls Tryf.prog 16 #[.pointer (some ⟨p, 0, none⟩)] w fun e w' => ∃ pe, e = .returned (faultV pe) ∧ Rd w' p bv off en (faultV pe) ∧ FaultAt w' pe off ∧ Only p w w' := by
  obtain ⟨c0, c1, c2, c3⟩ := h.cells
  have hne : ((off : Int) != (en : Int)) = true := by simp; omega
  have HR : Hid (Rd w p bv off en .nilIface) := h
  clear h
  go_enter Tryf.func16, Tryf.ntmps16
  go_wp2
  go_quiet (fail)
  go_wp2
  go_region_held3 (fun w' => w'.cell? ⟨p, 1, none⟩ = some (.int .i64 off) ∧ w'.cell? ⟨p, 2, none⟩ = some (.int .i64 en)) (go_keep)
    (first | (refine step_sprintf rfl _ (.tmp 34) rfl (.string fmtC) rfl (.slice (some ⟨w.heap.size, 0, none⟩) 1 1) rfl (sprintfC _ _ ⟨_, (ops1 w _ _)⟩) ?_; intro s) | (go_at_call 36; refine (fail_any p off en off bv _ _ ?_).mono ?_; exact (Rd.alloc (HR.out.drewN _) _).drew; rintro e w1 ⟨rfl, hr1, hr2, hr3⟩; obtain ⟨-, hk1, hk2, hk3⟩ := hr1.cells))
  go_wp2
  go_ret
  exact ⟨_, rfl, by simpa using hr1, by simpa using hr2, ((((Only.refl p w).drewN _).alloc _).drew).trans hr3⟩
set_option maxHeartbeats 1000000 in
theorem finish_err (p off en pe : Nat) (bv : Value) (w : World) (h : Rd w p bv off en (faultV pe)) :
    Calls Tryf.prog 16 #[.pointer (some ⟨p, 0, none⟩)] w fun e w' => e = .returned (faultV pe) ∧ ∃ q, w' = w.drewN q := by
  obtain ⟨c0, c1, c2, c3⟩ := h.cells
  clear h
  go_enter Tryf.func16, Tryf.ntmps16
  go_wp2
  go_quiet (fail)
  go_wp2
  go_ret
  exact ⟨rfl, _, rfl⟩

theorem ta_nil : ∀ w, (Instr.typeAssert .nilIface 33 68 true).run Tryf.prog w = .ok (.tuple #[.pointer none, .bool false]) w := fun _ => by kernel_rfl
theorem ta_some : ∀ (pe : Nat) (w : World), (Instr.typeAssert (faultV pe) 33 68 true).run Tryf.prog w = .ok (.tuple #[.pointer (some ⟨pe, 0, none⟩), .bool true]) w := fun _ _ => by kernel_rfl

set_option maxHeartbeats 1000000 in
theorem fault_ok (p off en : Nat) (bv : Value) (w : World) (h : Rd w p bv off en .nilIface) :
    Calls Tryf.prog 12 #[.pointer (some ⟨p, 0, none⟩)] w fun e w' => e = .returned (.tuple #[.bool false, .int .i64 (-1), .string ⟨#[]⟩]) ∧ w = w' := by
  obtain ⟨c0, c1, c2, c3⟩ := h.cells
  clear h
  have ht := ta_nil
  go_enter Tryf.func12, Tryf.ntmps12
  go_wp2
  go_ret3
  exact ⟨rfl, rfl⟩
set_option maxHeartbeats 1000000 in
theorem fault_err (p off en pe k : Nat) (bv : Value) (w : World) (h : Rd w p bv off en (faultV pe)) (hf : FaultAt w pe k) :
    Calls Tryf.prog 12 #[.pointer (some ⟨p, 0, none⟩)] w fun e w' => (∃ s : ByteArray, e = .returned (.tuple #[.bool true, .int .i64 k, .string s])) ∧ ∃ q, w' = w.drewN q := by
  obtain ⟨c0, c1, c2, c3⟩ := h.cells
  obtain ⟨s, hs⟩ := hf
  have d0 : w.cell? ⟨pe, 0, none⟩ = some (.int .i64 k) := by rw [cell_of_row w pe 0 _ 71 (0, 0) hs]; rfl
  have d1 : w.cell? ⟨pe, 1, none⟩ = some (.string s) := by rw [cell_of_row w pe 1 _ 71 (0, 0) hs]; rfl
  clear h hs
  have ht := ta_some pe
  go_enter Tryf.func12, Tryf.ntmps12
  go_wp2
  go_quiet (fail)
  go_wp2
  go_ret3
  exact ⟨⟨s, rfl⟩, _, rfl⟩

theorem end_any (p off en : Nat) (bv err : Value) (w : World) (h : Rd w p bv off en err) :
    Calls Tryf.prog 13 #[.pointer (some ⟨p, 0, none⟩)] w fun e w' => e = .returned (.int .i64 en) ∧ w = w' := by
  obtain ⟨c0, c1, c2, c3⟩ := h.cells
  clear h
  go_enter Tryf.func13, Tryf.ntmps13
  go_wp2
  go_ret
  exact ⟨rfl, rfl⟩
theorem off_any (p off en : Nat) (bv err : Value) (w : World) (h : Rd w p bv off en err) :
    Calls Tryf.prog 14 #[.pointer (some ⟨p, 0, none⟩)] w fun e w' => e = .returned (.int .i64 off) ∧ w = w' := by
  obtain ⟨c0, c1, c2, c3⟩ := h.cells
  clear h
  go_enter Tryf.func14, Tryf.ntmps14
  go_wp2
  go_ret
  exact ⟨rfl, rfl⟩
theorem newReader_any (a : Option Addr) (n cap : Nat) (w : World) :
    Calls Tryf.prog 10 #[.slice a n cap] w fun e w' => e = .returned (.pointer (some ⟨w.heap.size, 0, none⟩)) ∧ Rd w' w.heap.size (.slice a n cap) 0 n .nilIface ∧ Below w.heap.size w w' := by
  go_enter Tryf.func10, Tryf.ntmps10
  go_wp2
  go_ret
  exact ⟨rfl, heap_alloc_new _ _, (Below.refl _ _).alloc (Nat.le_refl _) _⟩

/-! ### rows of bytes -/
/-- n bytes lie behind the address a. -/
def BRow (w : World) (a : Option Addr) (n : Nat) (zs : List Int) : Prop :=
  n ≤ zs.length ∧ (0 < n → ∃ b off, a = some ⟨b, off, none⟩ ∧ ∀ i, i < n → w.cell? ⟨b, off + i, none⟩ = some (.int .u8 (zs.getD i 0)))
theorem BRow.below {w w' : World} {a : Option Addr} {n : Nat} {zs : List Int} (h : BRow w a n zs) (hb : Below w.heap.size w w') : BRow w' a n zs := by
  refine ⟨h.1, fun hn => ?_⟩
  obtain ⟨b, off, rfl, hc⟩ := h.2 hn
  exact ⟨b, off, rfl, fun i hi => (hb.cell (p := ⟨b, off + i, none⟩) (World.block_lt_of_cell? _ _ (hc i hi))).trans (hc i hi)⟩
theorem BRow.only {w w' : World} {a : Option Addr} {n p : Nat} {zs : List Int} (h : BRow w a n zs) (hb : Only p w w') (hp : ∀ x, a = some x → x.block ≠ p) : BRow w' a n zs := by
  refine ⟨h.1, fun hn => ?_⟩
  obtain ⟨b, off, rfl, hc⟩ := h.2 hn
  refine ⟨b, off, rfl, fun i hi => ?_⟩
  have hl := World.block_lt_of_cell? _ _ (hc i hi)
  exact (World.cell?_of_block (w := w) (a := ⟨b, off + i, none⟩) (hb.block b hl (hp _ rfl))).trans (hc i hi)
theorem BRow.drewN {w : World} {a : Option Addr} {n : Nat} {zs : List Int} (h : BRow w a n zs) (q : Nat) : BRow (w.drewN q) a n zs := h

/-- Two rows of bytes, cell by cell. -/
def eqB (xs ys : List Int) : Nat → Bool
  | 0 => true
  | n + 1 => eqB xs ys n && decide (xs.getD n 0 = ys.getD n 0)
theorem eqB_true {xs ys : List Int} {n : Nat} (h : ∀ i, i < n → xs.getD i 0 = ys.getD i 0) : eqB xs ys n = true := by
  induction n with
  | zero => rfl
  | succ m ih => rw [eqB, ih (fun i hi => h i (by omega))]; simpa using h m (by omega)

set_option maxHeartbeats 1000000 in
/-- Rows of one length that agree cell by cell. -/
theorem eq_true (a0 a1 : Option Addr) (n c0 c1 : Nat) (xs ys : List Int) (w : World) (hn : n ≤ 2097152) (r0 : BRow w a0 n xs) (r1 : BRow w a1 n ys) (h : ∀ i, i < n → xs.getD i 0 = ys.getD i 0) :
    Calls Tryf.prog 17 #[.slice a0 n c0, .slice a1 n c1] w fun e w' => e = .returned (.bool true) ∧ ∃ q, w' = w.drewN q := by
  have H : Hid (∀ i, i < n → xs.getD i 0 = ys.getD i 0) := h
  clear h
  go_enter Tryf.func17, Tryf.ntmps17
  go_wp2
  go_loopw [5] (fun i wr => ∃ k q : Nat, k ≤ n ∧ i = .int .i64 k ∧ wr = w.drewN q) (fun i _ => n + 1 - (intOf i).toNat)
  case atStart => exact ⟨0, 0, Nat.zero_le _, rfl, rfl⟩
  case round =>
    obtain ⟨k, q, hk, rfl, rfl⟩ := hrel
    by_cases hlt : k < n
    · obtain ⟨b, off, rfl, hc⟩ := r0.2 (by omega)
      obtain ⟨b1, off1, rfl, hc1⟩ := r1.2 (by omega)
      have g0 := hc k hlt
      have g1 := hc1 k hlt
      rw [← H.out k hlt] at g1
      generalize xs.getD k 0 = z at g0 g1
      have hi2 : (k : Int) < (n : Int) := by omega
      clear hc hc1
      go_wp2
      go_quiet (fail)
      go_wp2
      go_roundw
      case rel => exact ⟨k + 1, _, by omega, by go_num, rfl⟩
      case measure => simp [intOf]; omega
    · go_wp2
      go_ret
      exact ⟨rfl, q, rfl⟩

theorem Tryf.info5 : (Tryf.prog.info? 5).map (fun i => (i.zero, i.size, i.bytes)) = some (some (.int .u8 0), 1, 1) := by kernel_rfl

/-- Block B is a row of n bytes of the call's own, the first k of them as zs has them. -/
def Filled (w : World) (B n k : Nat) (zs : List Int) : Prop :=
  ∃ cur : Array Value, w.heap[B]? = some (.cells cur 5 (0, 0)) ∧ cur.size = n ∧ ∀ i, i < k → cur[i]? = some (.int .u8 (zs.getD i 0))
theorem Filled.start {w : World} {base B n : Nat} {xs : List Value} {zs : List Int} (h : w.ownsRow base 5 1 (.slice (some ⟨B, 0, none⟩) n n) n xs) : Filled w B n 0 zs := by
  rcases h.2 with ⟨h', _⟩ | ⟨g', cap', cur', h', _, hgg, _, _, hsz, _⟩
  · simp at h'
  · simp only [Value.slice.injEq, Option.some.injEq, Addr.mk.injEq, and_true, true_and] at h'
    obtain ⟨rfl, rfl⟩ := h'
    exact ⟨cur', hgg, by omega, fun i hi => by omega⟩
theorem Filled.cell {w : World} {B n k : Nat} {zs : List Int} (h : Filled w B n k zs) (hk : k < n) : ∃ v, w.cell? ⟨B, k, none⟩ = some v := by
  obtain ⟨cur, hg, hs, _⟩ := h
  exact ⟨cur[k], by rw [cell_of_row w B k cur 5 (0, 0) hg]; exact Array.getElem?_eq_getElem (by omega)⟩
theorem Filled.free {w : World} {B n k : Nat} {zs : List Int} (h : Filled w B n k zs) (j : Nat) : w.frozen? ⟨B, j, none⟩ = false := by
  obtain ⟨cur, hg, _⟩ := h
  exact frozen_of_row w B j cur 5 hg
theorem Filled.step {w : World} {B n k : Nat} {zs : List Int} (h : Filled w B n k zs) (hk : k < n) : Filled (w.setCell ⟨B, k, none⟩ (.int .u8 (zs.getD k 0))) B n (k + 1) zs := by
  obtain ⟨cur, hg, hs, hc⟩ := h
  refine ⟨cur.setIfInBounds k (.int .u8 (zs.getD k 0)), heap_setCell_same w B k cur 5 _ hg, by simpa using hs, fun i hi => ?_⟩
  rw [Array.getElem?_setIfInBounds]
  by_cases e : k = i
  · subst e; simp [hs, hk]
  · rw [if_neg e]; exact hc i (by omega)
theorem Filled.row {w : World} {B n : Nat} {zs : List Int} (h : Filled w B n n zs) (hz : n ≤ zs.length) : BRow w (some ⟨B, 0, none⟩) n zs := by
  obtain ⟨cur, hg, hs, hc⟩ := h
  exact ⟨hz, fun _ => ⟨B, 0, rfl, fun i hi => by rw [Nat.zero_add, cell_of_row w B i cur 5 (0, 0) hg]; exact hc i hi⟩⟩

set_option maxHeartbeats 1000000 in
theorem clone_some (x : Addr) (n c : Nat) (zs : List Int) (w : World) (hn : n ≤ 2097152) (r : BRow w (some x) n zs) :
    Calls Tryf.prog 9 #[.slice (some x) n c] w fun e w' => e = .returned (.slice (some ⟨w.heap.size, 0, none⟩) n n) ∧ BRow w' (some ⟨w.heap.size, 0, none⟩) n zs ∧ w.heap.size < w'.heap.size ∧ Below w.heap.size w w' := by
  obtain ⟨i0, hi, hz0, hz1, hz2⟩ := info_parts Tryf.info5
  have hnl := fun w => Lib.run_eql_slice_nil (P := Tryf.prog) w 22 5 (some x) n c 0 0 Tryf.underlying22
  have hzl := r.1
  go_enter Tryf.func9, Tryf.ntmps9
  go_wp2_with (at_make; refine wpList_make_full _ rfl _ _ 22 rfl w.heap.size 5 i0 _ 1 Tryf.underlying22 hi hz0 hz1 .i64 .i64 _ _ n rfl rfl rfl rfl (by rw [hz2]; omega) (by unfold maxLen; omega) (Nat.le_refl _) ?_; intro w1 hown1 hg1)
  have hb1 : Below w.heap.size w w1 := (Below.refl _ w).grown hg1 (Nat.le_refl _) (fun k h => by cases h)
  have hf1 : Filled w1 w.heap.size n 0 zs := Filled.start hown1
  obtain ⟨B, hB⟩ : ∃ B, B = w.heap.size := ⟨_, rfl⟩
  rw [← hB] at hb1 hf1 ⊢
  have HB : Hid (B = w.heap.size) := hB
  clear hB hg1 hown1
  go_loopw [4] (fun i wr => ∃ k : Nat, k ≤ n ∧ i = .int .i64 k ∧ Filled wr B n k zs ∧ Below B w wr) (fun i _ => n + 1 - (intOf i).toNat)
  case atStart => exact ⟨0, Nat.zero_le _, rfl, hf1, hb1⟩
  case round =>
    obtain ⟨k, hk, rfl, hf, hb⟩ := hrel
    clear hf1 hb1
    by_cases hlt : k < n
    · obtain ⟨b, off, hx, hc⟩ := r.2 (by omega)
      obtain rfl : x = ⟨b, off, none⟩ := by simpa using hx
      have g := hc k hlt
      have hbl : b < B := by rw [HB.out]; exact World.block_lt_of_cell? _ _ g
      have g0 : wr.cell? ⟨b, off + k, none⟩ = some (.int .u8 (zs.getD k 0)) := (hb.cell (p := ⟨b, off + k, none⟩) hbl).trans g
      obtain ⟨v, hv⟩ := hf.cell hlt
      have hfr := hf.free k
      have hst : Filled _ B n (k + 1) zs := hf.step hlt
      have hbs : Below B w (wr.setCell ⟨B, k, none⟩ (.int .u8 (zs.getD k 0))) := hb.setCell (Nat.le_refl _) _
      generalize zs.getD k 0 = z at g0 hst hbs
      have hi2 : (k : Int) < (n : Int) := by omega
      clear hc g hf hb hx
      go_wp2
      go_roundw
      case rel => exact ⟨k + 1, by omega, by go_num, hst, hbs⟩
      case measure => simp [intOf]; omega
    · obtain rfl : k = n := by omega
      go_wp2
      go_ret
      have e := HB.out
      have hr := hf.row hzl
      have hl : B < wr.heap.size := by obtain ⟨cur, hg, _⟩ := hf; exact (Array.getElem?_eq_some_iff.1 hg).1
      subst e
      exact ⟨rfl, hr, hl, hb⟩

set_option maxHeartbeats 1000000 in
theorem clone_none (n c : Nat) (w : World) :
    Calls Tryf.prog 9 #[.slice none n c] w fun e w' => e = .returned (.slice none 0 0) ∧ w = w' := by
  have hnl := fun w => Lib.run_eql_slice_nil (P := Tryf.prog) w 22 5 none n c 0 0 Tryf.underlying22
  go_enter Tryf.func9, Tryf.ntmps9
  go_wp2
  go_ret
  exact ⟨rfl, rfl⟩
end Go.Proofs.Qxb6604610aFmt
