/-
  zzItoa (15).
-/
import Derived.Test.Qxb6003322aFmtPlain
namespace Go.Proofs.Qxb6003322aFmt
open Go.RowKit Go.Extern.Stop Go.Stop Go.Extern

/-- m decimal digits of V. -/
def digs (V m : Nat) : List Int := (List.range m).map fun j => ((48 + V / 10 ^ (m - 1 - j) % 10 : Nat) : Int)
theorem digs_length (V m : Nat) : (digs V m).length = m := by simp [digs]
theorem digs_at {V m j : Nat} (h : j < m) : (digs V m).getD j 0 = ((48 + V / 10 ^ (m - 1 - j) % 10 : Nat) : Int) := by
  rw [List.getD_eq_getElem?_getD, digs, List.getElem?_map, List.getElem?_range h]; rfl
/-- The buffer behind t digits. -/
def Buf (wr : World) (A V t : Nat) : Prop := ∃ cs : Array Value, wr.heap[A]? = some (.cells cs 58 (0, 0)) ∧ cs.size = 20 ∧ ∀ r, r < t → cs[19 - r]? = some (.int .u8 ((48 + V / 10 ^ r % 10 : Nat) : Int))
theorem Buf.cell {wr : World} {A V t j : Nat} (h : Buf wr A V t) (hj : j < 20) : (∃ v, wr.cell? ⟨A, j, none⟩ = some v) ∧ wr.frozen? ⟨A, j, none⟩ = false := by
  obtain ⟨cs, h1, h2, _⟩ := h
  exact ⟨⟨cs[j], by rw [cell_of_row wr A j cs 58 (0, 0) h1]; exact Array.getElem?_eq_getElem (by omega)⟩, frozen_of_row wr A j cs 58 h1⟩
theorem Buf.step {wr : World} {A V t : Nat} (h : Buf wr A V t) (ht : t < 20) : Buf (wr.setCell ⟨A, 19 - t, none⟩ (.int .u8 ((48 + V / 10 ^ t % 10 : Nat) : Int))) A V (t + 1) := by
  obtain ⟨cs, h1, h2, h3⟩ := h
  refine ⟨cs.setIfInBounds (19 - t) _, heap_setCell_same wr A (19 - t) cs 58 _ h1, by simpa using h2, fun r hr => ?_⟩
  rw [Array.getElem?_setIfInBounds]
  by_cases e : r = t
  · subst e; simp [h2]; omega
  · rw [if_neg (by omega)]; exact h3 r (by omega)
theorem Buf.at' {wr : World} {A V t r : Nat} (h : Buf wr A V t) (hr : r < t) : wr.cell? ⟨A, 19 - r, none⟩ = some (.int .u8 ((48 + V / 10 ^ r % 10 : Nat) : Int)) := by
  obtain ⟨cs, h1, h2, h3⟩ := h
  rw [cell_of_row wr A (19 - r) cs 58 (0, 0) h1]; exact h3 r hr

set_option maxRecDepth 20000 in
set_option maxHeartbeats 1000000 in
theorem itoa_zero (w : World) : Calls Tryf.prog 15 #[.int .i64 (0 : Nat)] w fun e w' => ∃ B c, e = .returned (.slice (some ⟨B, 0, none⟩) 1 c) ∧ BRow w' (some ⟨B, 0, none⟩) 1 (digs 0 1) ∧ Below w.heap.size w w' := by
  have hb : Below w.heap.size w (w.alloc (.cells #[.int .u8 48] 5)) := (Below.refl _ _).alloc (Nat.le_refl _) _
  have hr : BRow (w.alloc (.cells #[.int .u8 48] 5)) (some ⟨w.heap.size, 0, none⟩) 1 (digs 0 1) := ⟨by simp [digs], fun _ => ⟨_, _, rfl, fun i hi => by
    obtain rfl : i = 0 := by omega
    rw [cell_of_row _ _ _ _ 5 (0, 0) (heap_alloc_new w _)]; rfl⟩⟩
  go_enter Tryf.func15, Tryf.ntmps15
  go_wp2_with fail
  go_ret
  exact ⟨_, _, rfl, hr, hb⟩

set_option maxRecDepth 20000 in
set_option maxHeartbeats 4000000 in
theorem itoa_pos (V m : Nat) (w : World) (hV : V ≤ 9223372036854775807) (h0 : 0 < V) (hm1 : 1 ≤ m) (hlo : 10 ^ (m - 1) ≤ V) (hhi : V < 10 ^ m) (hm : m ≤ 19) :
    Calls Tryf.prog 15 #[.int .i64 V] w fun e w' => ∃ B c, e = .returned (.slice (some ⟨B, 0, none⟩) m c) ∧ BRow w' (some ⟨B, 0, none⟩) m (digs V m) ∧ Below w.heap.size w w' := by
  obtain ⟨i0, hi, hz0, hz1, hz2⟩ := info_parts Tryf.info5
  have v1 : ¬ (V : Int) < 0 := by omega
  have v2 : ((V : Int) == 0) = false := by simp; omega
  have HLO : Hid _ := hlo
  have HHI : Hid _ := hhi
  clear hlo hhi
  go_enter Tryf.func15, Tryf.ntmps15
  go_wp2_with fail
  go_loopw [0, 4] (fun x y wr => ∃ t : Nat, t ≤ m ∧ x = .int .i64 (V / 10 ^ t : Nat) ∧ y = .int .i64 (20 - t : Nat) ∧ Buf wr w.heap.size V t ∧ Below w.heap.size w wr) (fun _ y _ => (intOf y).toNat)
  case atStart => exact ⟨0, Nat.zero_le _, by simp, rfl, ⟨_, heap_alloc_new w _, rfl, fun r hr => by omega⟩, (Below.refl _ w).alloc (Nat.le_refl _) _⟩
  case round =>
    obtain ⟨t, htm, rfl, rfl, hbuf, hB⟩ := hrel
    by_cases hlt : t < m
    · have hpow : 10 ^ t ≤ 10 ^ (m - 1) := Nat.pow_le_pow_right (by omega) (by omega)
      have hv : 0 < V / 10 ^ t := Nat.div_pos (Nat.le_trans hpow HLO.out) (Nat.pow_pos (by omega))
      have hvV : V / 10 ^ t ≤ V := Nat.div_le_self _ _
      have hst := hbuf.step (by omega : t < 20)
      have hnx : V / 10 ^ (t + 1) = V / 10 ^ t / 10 := by rw [Nat.pow_succ, Nat.div_div_eq_div_mul]
      obtain ⟨⟨u, hu⟩, hfr⟩ := hbuf.cell (show 19 - t < 20 by omega)
      have hBs : Below w.heap.size w (wr.setCell ⟨w.heap.size, 19 - t, none⟩ (.int .u8 ((48 + V / 10 ^ t % 10 : Nat) : Int))) := hB.setCell (Nat.le_refl _) _
      generalize V / 10 ^ t = v at hv hvV hst hnx hBs
      have c1 : (0 : Int) < (v : Int) := by omega
      have c2 : (v : Int).tmod 10 = ((v % 10 : Nat) : Int) := rfl
      have c3 : (v : Int).tdiv 10 = ((v / 10 : Nat) : Int) := rfl
      have c4 : ((20 - t : Nat) : Int) - 1 = ((19 - t : Nat) : Int) := by omega
      have c5 : IntKind.u8.wrap (48 + ((v % 10 : Nat) : Int)) = ((48 + v % 10 : Nat) : Int) := by rw [IntKind.wrap_u8]; omega
      have c6 : ((19 - t : Nat) : Int) < 20 := by omega
      have HS : Hid _ := hst
      have HNX : Hid _ := hnx
      have HBS : Hid _ := hBs
      clear hst hnx hBs hbuf hB hpow
      go_wp2_with fail
      have e1 : (48 + (v : Int) % 10) = ((48 + v % 10 : Nat) : Int) := by omega
      rw [e1]
      exact ⟨⟨t + 1, by omega, by rw [HNX.out]; congr 1, by rw [show 20 - (t + 1) = 19 - t by omega], HS.out, HBS.out⟩, by simp [intOf]; omega⟩
    · obtain rfl : t = m := by omega
      have hz : V / 10 ^ t = 0 := Nat.div_eq_of_lt HHI.out
      rw [hz]
      obtain ⟨p, hp⟩ : ∃ p, p = 20 - t := ⟨_, rfl⟩
      rw [← hp]
      have hpt : p + t = 20 := by omega
      have HPT : Hid _ := hpt
      have c7 : (20 : Int) - (p : Int) = (t : Int) := by omega
      clear hp hpt
      have c8 : ¬ (0 : Int) < ((0 : Nat) : Int) := by omega
      have hAw : w.heap.size < wr.heap.size := by obtain ⟨cs, hg, _⟩ := hbuf; exact (Array.getElem?_eq_some_iff.1 hg).1
      have HBUF : Hid (Buf wr w.heap.size V t) := hbuf
      have HBB : Hid (Below w.heap.size w wr) := hB
      clear hz hbuf hB
      go_wp2_with (at_make; refine wpList_make_full _ rfl _ _ 22 rfl wr.heap.size 5 i0 _ 1 Tryf.underlying22 hi hz0 hz1 .i64 .i64 _ _ t rfl rfl rfl rfl (by rw [hz2]; omega) (by unfold maxLen; omega) (Nat.le_refl _) ?_; intro w1 hown1 hg1)
      have hb1 : Below wr.heap.size wr w1 := (Below.refl _ wr).grown hg1 (Nat.le_refl _) (fun k h => by cases h)
      have hf1 : Filled w1 wr.heap.size t 0 (digs V t) := Filled.start hown1
      obtain ⟨B, hBe⟩ : ∃ B, B = wr.heap.size := ⟨_, rfl⟩
      rw [← hBe] at hb1 hf1 ⊢
      have HBE : Hid (B = wr.heap.size) := hBe
      have hAB : w.heap.size < B := by omega
      clear hBe hg1 hown1
      go_loopw [6] (fun x w2 => ∃ k : Nat, k ≤ t ∧ x = .int .i64 k ∧ Filled w2 B t k (digs V t) ∧ Below B wr w2) (fun x _ => t + 1 - (intOf x).toNat)
      case atStart => exact ⟨0, Nat.zero_le _, rfl, hf1, hb1⟩
      case round =>
        obtain ⟨k, hk, rfl, hf, hb⟩ := hrel
        clear hf1 hb1
        by_cases hlt2 : k < t
        · have g := HBUF.out.at' (show t - 1 - k < t by omega)
          have gz := digs_at (V := V) hlt2
          have g0 : wr.cell? ⟨w.heap.size, 19 - (t - 1 - k), none⟩ = some (.int .u8 ((digs V t).getD k 0)) := (hb.cell (p := ⟨w.heap.size, 19 - (t - 1 - k), none⟩) hAB).trans (by rw [g, gz])
          have hpt := HPT.out
          rw [show 19 - (t - 1 - k) = p + k by omega] at g0
          obtain ⟨v, hv⟩ := hf.cell hlt2
          have hfr := hf.free k
          have hst : Filled _ B t (k + 1) (digs V t) := hf.step hlt2
          have hbs := hb.setCell (show B ≤ (⟨B, k, none⟩ : Addr).block from Nat.le_refl _) (.int .u8 ((digs V t).getD k 0))
          generalize (digs V t).getD k 0 = z at g0 hst hbs
          have hi2 : (k : Int) < (t : Int) := by omega
          have hi4 : (p : Int) + (k : Int) < 20 := by omega
          clear hpt
          have HST : Hid _ := hst
          have HBS : Hid _ := hbs
          clear g gz hf hb hst hbs
          go_wp2_with fail
          go_roundw
          case rel => exact ⟨k + 1, by omega, by go_num, HST.out, HBS.out⟩
          case measure => simp [intOf]; omega
        · obtain rfl : k = t := by omega
          have hr := hf.row (by rw [digs_length]; exact Nat.le_refl _)
          have hfin : Below w.heap.size w wr := HBB.out.trans (hb.mono (by omega))
          go_wp2_with fail
          go_ret
          exact ⟨_, _, rfl, hr, hfin⟩
end Go.Proofs.Qxb6003322aFmt
