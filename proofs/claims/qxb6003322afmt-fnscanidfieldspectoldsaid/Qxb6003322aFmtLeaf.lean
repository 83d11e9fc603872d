/-
  Rows of bytes; zzBlank (10), isBlank (31), zzClone (11), zzSame (14), fieldEnd (29).
-/
import Derived.Test.Qxb6003322aFmtProg
import Derived.WalkKit
import Derived.WalkSpells
import Derived.WalkLawsBesides
import Derived.Deep.QuietTactic
import Derived.BigQuiet
import Derived.Deep.RegionHeld3
import Derived.Deep.DrawnRows
import Derived.Deep.DeepFit
import Derived.Deep.DeepMust
import Derived.Stop.CallBack
import Derived.Stop.IfaceNil
namespace Go.Proofs.Qxb6003322aFmt
open Go.RowKit Go.Extern.Stop Go.Stop Go.Extern

/-! ### rows of bytes -/
/-- n bytes lie behind the address a. -/
def BRow (w : World) (a : Option Addr) (n : Nat) (zs : List Int) : Prop :=
  n ≤ zs.length ∧ (0 < n → ∃ b off, a = some ⟨b, off, none⟩ ∧ ∀ i, i < n → w.cell? ⟨b, off + i, none⟩ = some (.int .u8 (zs.getD i 0)))
theorem BRow.below {w w' : World} {a : Option Addr} {n : Nat} {zs : List Int} (h : BRow w a n zs) (hb : Below w.heap.size w w') : BRow w' a n zs := by
  refine ⟨h.1, fun hn => ?_⟩
  obtain ⟨b, off, rfl, hc⟩ := h.2 hn
  exact ⟨b, off, rfl, fun i hi => (hb.cell (p := ⟨b, off + i, none⟩) (World.block_lt_of_cell? _ _ (hc i hi))).trans (hc i hi)⟩
theorem BRow.drewN {w : World} {a : Option Addr} {n : Nat} {zs : List Int} (h : BRow w a n zs) (q : Nat) : BRow (w.drewN q) a n zs := h

theorem eq_true (a0 a1 : Option Addr) (n c0 c1 : Nat) (xs ys : List Int) (w : World) (hn : n ≤ 2097152) (r0 : BRow w a0 n xs) (r1 : BRow w a1 n ys) (h : ∀ i, i < n → xs.getD i 0 = ys.getD i 0) :
    Calls Tryf.prog 14 #[.slice a0 n c0, .slice a1 n c1] w fun e w' => e = .returned (.bool true) ∧ ∃ q, w' = w.drewN q := by
  have H : Hid (∀ i, i < n → xs.getD i 0 = ys.getD i 0) := h
  clear h
  go_enter Tryf.func14, Tryf.ntmps14
  go_wp2
  go_loopw [5] (fun i wr => ∃ k q : Nat, k ≤ n ∧ i = .int .i64 k ∧ wr = w.drewN q) (fun i _ => n + 1 - (intOf i).toNat)
  case atStart => exact ⟨0, 0, Nat.zero_le _, rfl, rfl⟩
  case round =>
    obtain ⟨k, q, hk, rfl, rfl⟩ := hrel
    by_cases hlt : k < n
    · obtain ⟨b, off, rfl, hc⟩ := r0.2 (by omega)
      obtain ⟨b1, off1, rfl, hc1⟩ := r1.2 (by omega)
      have g0 := hc k hlt
      have g1 := hc1 k hlt
      rw [← H.out k hlt] at g1
      generalize xs.getD k 0 = z at g0 g1
      have hi2 : (k : Int) < (n : Int) := by omega
      clear hc hc1
      go_wp2
      go_quiet (fail)
      go_wp2
      go_roundw
      case rel => exact ⟨k + 1, _, by omega, by go_num, rfl⟩
      case measure => simp [intOf]; omega
    · go_wp2
      go_ret
      exact ⟨rfl, q, rfl⟩

theorem Tryf.info5 : (Tryf.prog.info? 5).map (fun i => (i.zero, i.size, i.bytes)) = some (some (.int .u8 0), 1, 1) := by kernel_rfl

/-- Block B is a row of n bytes of the call's own, the first k of them as zs has them. -/
def Filled (w : World) (B n k : Nat) (zs : List Int) : Prop :=
  ∃ cur : Array Value, w.heap[B]? = some (.cells cur 5 (0, 0)) ∧ cur.size = n ∧ ∀ i, i < k → cur[i]? = some (.int .u8 (zs.getD i 0))
theorem Filled.start {w : World} {base B n : Nat} {xs : List Value} {zs : List Int} (h : w.ownsRow base 5 1 (.slice (some ⟨B, 0, none⟩) n n) n xs) : Filled w B n 0 zs := by
  rcases h.2 with ⟨h', _⟩ | ⟨g', cap', cur', h', _, hgg, _, _, hsz, _⟩
  · simp at h'
  · simp only [Value.slice.injEq, Option.some.injEq, Addr.mk.injEq, and_true, true_and] at h'
    obtain ⟨rfl, rfl⟩ := h'
    exact ⟨cur', hgg, by omega, fun i hi => by omega⟩
theorem Filled.cell {w : World} {B n k : Nat} {zs : List Int} (h : Filled w B n k zs) (hk : k < n) : ∃ v, w.cell? ⟨B, k, none⟩ = some v := by
  obtain ⟨cur, hg, hs, _⟩ := h
  exact ⟨cur[k], by rw [cell_of_row w B k cur 5 (0, 0) hg]; exact Array.getElem?_eq_getElem (by omega)⟩
theorem Filled.free {w : World} {B n k : Nat} {zs : List Int} (h : Filled w B n k zs) (j : Nat) : w.frozen? ⟨B, j, none⟩ = false := by
  obtain ⟨cur, hg, _⟩ := h
  exact frozen_of_row w B j cur 5 hg
theorem Filled.step {w : World} {B n k : Nat} {zs : List Int} (h : Filled w B n k zs) (hk : k < n) : Filled (w.setCell ⟨B, k, none⟩ (.int .u8 (zs.getD k 0))) B n (k + 1) zs := by
  obtain ⟨cur, hg, hs, hc⟩ := h
  refine ⟨cur.setIfInBounds k (.int .u8 (zs.getD k 0)), heap_setCell_same w B k cur 5 _ hg, by simpa using hs, fun i hi => ?_⟩
  rw [Array.getElem?_setIfInBounds]
  by_cases e : k = i
  · subst e; simp [hs, hk]
  · rw [if_neg e]; exact hc i (by omega)
theorem Filled.row {w : World} {B n : Nat} {zs : List Int} (h : Filled w B n n zs) (hz : n ≤ zs.length) : BRow w (some ⟨B, 0, none⟩) n zs := by
  obtain ⟨cur, hg, hs, hc⟩ := h
  exact ⟨hz, fun _ => ⟨B, 0, rfl, fun i hi => by rw [Nat.zero_add, cell_of_row w B i cur 5 (0, 0) hg]; exact hc i hi⟩⟩

set_option maxHeartbeats 1000000 in
theorem clone_some (x : Addr) (n c : Nat) (zs : List Int) (w : World) (hn : n ≤ 2097152) (r : BRow w (some x) n zs) :
    Calls Tryf.prog 11 #[.slice (some x) n c] w fun e w' => e = .returned (.slice (some ⟨w.heap.size, 0, none⟩) n n) ∧ BRow w' (some ⟨w.heap.size, 0, none⟩) n zs ∧ w.heap.size < w'.heap.size ∧ Below w.heap.size w w' := by
  obtain ⟨i0, hi, hz0, hz1, hz2⟩ := info_parts Tryf.info5
  have hnl := fun w => Lib.run_eql_slice_nil (P := Tryf.prog) w 22 5 (some x) n c 0 0 Tryf.underlying22
  have hzl := r.1
  go_enter Tryf.func11, Tryf.ntmps11
  go_wp2_with (at_make; refine wpList_make_full _ rfl _ _ 22 rfl w.heap.size 5 i0 _ 1 Tryf.underlying22 hi hz0 hz1 .i64 .i64 _ _ n rfl rfl rfl rfl (by rw [hz2]; omega) (by unfold maxLen; omega) (Nat.le_refl _) ?_; intro w1 hown1 hg1)
  have hb1 : Below w.heap.size w w1 := (Below.refl _ w).grown hg1 (Nat.le_refl _) (fun k h => by cases h)
  have hf1 : Filled w1 w.heap.size n 0 zs := Filled.start hown1
  obtain ⟨B, hB⟩ : ∃ B, B = w.heap.size := ⟨_, rfl⟩
  rw [← hB] at hb1 hf1 ⊢
  have HB : Hid (B = w.heap.size) := hB
  clear hB hg1 hown1
  go_loopw [4] (fun i wr => ∃ k : Nat, k ≤ n ∧ i = .int .i64 k ∧ Filled wr B n k zs ∧ Below B w wr) (fun i _ => n + 1 - (intOf i).toNat)
  case atStart => exact ⟨0, Nat.zero_le _, rfl, hf1, hb1⟩
  case round =>
    obtain ⟨k, hk, rfl, hf, hb⟩ := hrel
    clear hf1 hb1
    by_cases hlt : k < n
    · obtain ⟨b, off, hx, hc⟩ := r.2 (by omega)
      obtain rfl : x = ⟨b, off, none⟩ := by simpa using hx
      have g := hc k hlt
      have hbl : b < B := by rw [HB.out]; exact World.block_lt_of_cell? _ _ g
      have g0 : wr.cell? ⟨b, off + k, none⟩ = some (.int .u8 (zs.getD k 0)) := (hb.cell (p := ⟨b, off + k, none⟩) hbl).trans g
      obtain ⟨v, hv⟩ := hf.cell hlt
      have hfr := hf.free k
      have hst : Filled _ B n (k + 1) zs := hf.step hlt
      have hbs : Below B w (wr.setCell ⟨B, k, none⟩ (.int .u8 (zs.getD k 0))) := hb.setCell (Nat.le_refl _) _
      generalize zs.getD k 0 = z at g0 hst hbs
      have hi2 : (k : Int) < (n : Int) := by omega
      clear hc g hf hb hx
      go_wp2
      go_roundw
      case rel => exact ⟨k + 1, by omega, by go_num, hst, hbs⟩
      case measure => simp [intOf]; omega
    · obtain rfl : k = n := by omega
      go_wp2
      go_ret
      have e := HB.out
      have hr := hf.row hzl
      have hl : B < wr.heap.size := by obtain ⟨cur, hg, _⟩ := hf; exact (Array.getElem?_eq_some_iff.1 hg).1
      subst e
      exact ⟨rfl, hr, hl, hb⟩

set_option maxHeartbeats 1000000 in
theorem clone_none (n c : Nat) (w : World) :
    Calls Tryf.prog 11 #[.slice none n c] w fun e w' => e = .returned (.slice none 0 0) ∧ w = w' := by
  have hnl := fun w => Lib.run_eql_slice_nil (P := Tryf.prog) w 22 5 none n c 0 0 Tryf.underlying22
  go_enter Tryf.func11, Tryf.ntmps11
  go_wp2
  go_ret
  exact ⟨rfl, rfl⟩

/-- A blank: a space or a tab. -/
def blank (z : Int) : Bool := z == 32 || z == 9
set_option maxHeartbeats 1000000 in
theorem blank10 (z : Int) (w : World) : Calls Tryf.prog 10 #[.int .u8 z] w fun e w' => e = .returned (.bool (blank z)) ∧ w = w' := by
  by_cases h1 : z = 32
  · subst h1
    go_enter Tryf.func10, Tryf.ntmps10
    go_wp2
    go_ret
    exact ⟨rfl, rfl⟩
  · have h2 : (z == 32) = false := by simpa using h1
    go_enter Tryf.func10, Tryf.ntmps10
    go_wp2
    go_ret
    exact ⟨by simp [blank, h2], rfl⟩
set_option maxHeartbeats 1000000 in
theorem blank31 (z : Int) (w : World) : Calls Tryf.prog 31 #[.int .u8 z] w fun e w' => e = .returned (.bool (blank z)) ∧ w = w' := by
  by_cases h1 : z = 32
  · subst h1
    go_enter Tryf.func31, Tryf.ntmps31
    go_wp2
    go_ret
    exact ⟨rfl, rfl⟩
  · have h2 : (z == 32) = false := by simpa using h1
    go_enter Tryf.func31, Tryf.ntmps31
    go_wp2
    go_ret
    exact ⟨by simp [blank, h2], rfl⟩

/-- The field that holds byte i ends at e. -/
structure FieldEnd (zs : List Int) (n i e : Nat) : Prop where
  le : i ≤ e
  top : e ≤ n
  inner : ∀ j, i ≤ j → j < e → blank (zs.getD j 0) = false
  last : e < n → blank (zs.getD e 0) = true
theorem FieldEnd.same {zs : List Int} {n i e e' : Nat} (h : FieldEnd zs n i e) (h' : FieldEnd zs n i e') : e = e' := by
  rcases Nat.lt_trichotomy e e' with hl | hl | hl
  · have h1 := h.last (by have := h'.top; omega)
    rw [h'.inner e h.le hl] at h1
    cases h1
  · exact hl
  · have h1 := h'.last (by have := h.top; omega)
    rw [h.inner e' h'.le hl] at h1
    cases h1
theorem FieldEnd.from {zs : List Int} {n i j e : Nat} (h : FieldEnd zs n i e) (h1 : i ≤ j) (h2 : j ≤ e) : FieldEnd zs n j e := ⟨h2, h.top, fun k hk he => h.inner k (by omega) he, h.last⟩
theorem FieldEnd.back {zs : List Int} {n i j e : Nat} (h : FieldEnd zs n j e) (h1 : i ≤ j) (h2 : ∀ k, i ≤ k → k < j → blank (zs.getD k 0) = false) : FieldEnd zs n i e :=
  ⟨by have := h.le; omega, h.top, fun k hk he => by
    by_cases hj : k < j
    · exact h2 k hk hj
    · exact h.inner k (by omega) he, h.last⟩

set_option maxHeartbeats 1000000 in
theorem fieldEnd_any (G n c i : Nat) (zs : List Int) (w : World) (hn : n ≤ 2097152) (row : BRow w (some ⟨G, 0, none⟩) n zs) (hi : i ≤ n) :
    Calls Tryf.prog 29 #[.slice (some ⟨G, 0, none⟩) n c, .int .i64 i] w fun e w' => ∃ k : Nat, e = .returned (.int .i64 k) ∧ FieldEnd zs n i k ∧ w = w' := by
  go_enter Tryf.func29, Tryf.ntmps29
  go_wp2_with fail
  go_loop [1] (fun v => ∃ k : Nat, i ≤ k ∧ k ≤ n ∧ v = .int .i64 k ∧ ∀ j, i ≤ j → j < k → blank (zs.getD j 0) = false) (fun v => n + 1 - (intOf v).toNat)
  case atStart => exact ⟨i, Nat.le_refl _, hi, rfl, fun j h1 h2 => by omega⟩
  case round =>
    obtain ⟨k, hik, hk, rfl, hin⟩ := hrel
    have HIN : Hid _ := hin
    clear hin
    by_cases hlt : k < n
    · obtain ⟨b, off, hx, hc⟩ := row.2 (by omega)
      obtain ⟨rfl, rfl⟩ : G = b ∧ 0 = off := by simpa using hx
      have g0 := hc k hlt
      rw [Nat.zero_add] at g0
      have hi2 : (k : Int) < (n : Int) := by omega
      have hBl := blank31 (zs.getD k 0) w
      obtain ⟨z, hz⟩ : ∃ z, z = zs.getD k 0 := ⟨_, rfl⟩
      rw [← hz] at g0 hBl
      have HZ : Hid _ := hz
      clear hc hx hz
      cases hb : blank z with
      | false =>
        rw [hb] at hBl
        have HBL : Hid _ := hb
        clear hb
        go_wp2_with (go_at_call 31; refine hBl.mono ?_; rintro e w' ⟨rfl, rfl⟩)
        go_round
        case rel => exact ⟨k + 1, by omega, by omega, by go_num, fun j h1 h2 => by
          by_cases e : j = k
          · subst e
            rw [← HZ.out]
            exact HBL.out
          · exact HIN.out j h1 (by omega)⟩
        case measure => simp [intOf]; omega
      | true =>
        rw [hb] at hBl
        have HBL : Hid _ := hb
        clear hb
        go_wp2_with (go_at_call 31; refine hBl.mono ?_; rintro e w' ⟨rfl, rfl⟩)
        go_ret
        exact ⟨k, rfl, ⟨hik, hk, HIN.out, fun _ => by rw [← HZ.out]; exact HBL.out⟩, rfl⟩
    · obtain rfl : k = n := by omega
      go_wp2_with fail
      go_ret
      exact ⟨k, rfl, ⟨hik, hk, HIN.out, fun h => absurd h (Nat.lt_irrefl _)⟩, rfl⟩
end Go.Proofs.Qxb6003322aFmt
