/-
  scanID (24).
-/
import Derived.Test.Qxb6003322aFmtErr
namespace Go.Proofs.Qxb6003322aFmt
open Go.RowKit Go.Extern.Stop Go.Stop Go.Extern

def Bytes (zs : List Int) : Prop := ∀ i, 0 ≤ zs.getD i 0 ∧ zs.getD i 0 ≤ 255
/-- A decimal digit. -/
def isDig (z : Int) : Prop := 48 ≤ z ∧ z ≤ 57
/-- The value of k digits from i on. -/
def dv (zs : List Int) (i : Nat) : Nat → Nat
  | 0 => 0
  | k + 1 => 10 * dv zs i k + (zs.getD (i + k) 0 - 48).toNat
theorem dig_not_blank {z : Int} (h : isDig z) : blank z = false := by
  unfold isDig at h
  simp [blank]
  omega
/-- The field is an id. -/
def IsID (zs : List Int) (i e : Nat) : Prop := (∀ j, i ≤ j → j < e → isDig (zs.getD j 0)) ∧ dv zs i (e - i) ≤ 9223372036854775807
/-- How scanID ends. -/
def ScanOut (zs : List Int) (n i : Nat) (w : World) (e : Ending) (w' : World) : Prop :=
  Below w.heap.size w w' ∧ ∃ k : Nat, FieldEnd zs n i k ∧ ((IsID zs i k ∧ e = .returned (.tuple #[.int .i64 (dv zs i (k - i) : Nat), .int .i64 k, .nilIface])) ∨
    (¬ IsID zs i k ∧ ∃ p, e = .returned (.tuple #[.int .i64 0, .int .i64 k, .iface 71 (.pointer (some p))])))
theorem byte_at {w : World} {b n : Nat} {zs : List Int} (row : BRow w (some ⟨b, 0, none⟩) n zs) (hz : Bytes zs) {i : Nat} (hi : i < n) : ∃ z : Nat, z ≤ 255 ∧ zs.getD i 0 = z ∧ w.cell? ⟨b, i, none⟩ = some (.int .u8 z) := by
  obtain ⟨b', off', hx, hc⟩ := row.2 (by omega)
  obtain ⟨rfl, rfl⟩ : b = b' ∧ 0 = off' := by simpa using hx
  have h1 := hz i
  have h2 := hc i hi
  rw [Nat.zero_add] at h2
  refine ⟨(zs.getD i 0).toNat, by omega, by omega, ?_⟩
  rw [h2]; congr 2; omega
theorem some8 {w : World} {b n : Nat} {zs : List Int} (row : BRow w (some ⟨b, 0, none⟩) n zs) {i m : Nat} (hi : i + m ≤ n) : Some8 w b i m := by
  intro j hj
  obtain ⟨b', off', hx, hc⟩ := row.2 (by omega)
  obtain ⟨rfl, rfl⟩ : b = b' ∧ 0 = off' := by simpa using hx
  have := hc (i + j) (by omega)
  rw [Nat.zero_add] at this
  exact ⟨_, this⟩
theorem wrap8 (z : Nat) (h : z ≤ 255) : IntKind.u8.wrap ((z : Int) - 48) = ((if 48 ≤ z then z - 48 else z + 208 : Nat) : Int) := by
  rw [IntKind.wrap_u8]
  split <;> omega
theorem dv_mono (zs : List Int) (i : Nat) {a b : Nat} (h : a ≤ b) : dv zs i a ≤ dv zs i b := by
  induction b with
  | zero => obtain rfl : a = 0 := by omega
            exact Nat.le_refl _
  | succ m ih =>
    by_cases e : a = m + 1
    · subst e; exact Nat.le_refl _
    · have := ih (by omega)
      rw [dv]
      omega

theorem Some8.below {w w' : World} {b off n : Nat} (h : Some8 w b off n) (hb : Below w.heap.size w w') : Some8 w' b off n := by
  intro i hi
  obtain ⟨z, hz⟩ := h i hi
  exact ⟨z, (hb.cell (p := ⟨b, off + i, none⟩) (World.block_lt_of_cell? _ _ hz)).trans hz⟩
theorem Some8.alloc {w : World} {b off n : Nat} (h : Some8 w b off n) (o : Obj) : Some8 (w.alloc o) b off n := h.below ((Below.refl _ w).alloc (Nat.le_refl _) o)
theorem one_cell (w : World) (v : Value) (t : TypeId) : (w.alloc (.cells #[v] t)).cell? ⟨w.heap.size, 0, none⟩ = some v := (cell_of_row _ _ 0 _ t (0, 0) (heap_alloc_new w (.cells #[v] t))).trans rfl
theorem not_id {zs : List Int} {n i j k d v : Nat} (hFE : FieldEnd zs n j k) (hij : i ≤ j) (hlt : j < n) (hb : blank (zs.getD j 0) = false) (hv : v = dv zs i (j - i)) (hd : (zs.getD j 0 - 48).toNat = d) (h : 9223372036854775807 < 10 * v + d) : ¬ IsID zs i k := by
  intro hID
  have hk : j < k := by
    rcases Nat.lt_or_ge j k with h1 | h1
    · exact h1
    · have h2 : k = j := by have := hFE.le; omega
      have h3 := hFE.last (by omega)
      rw [h2, hb] at h3
      cases h3
  have h4 := dv_mono zs i (show j - i + 1 ≤ k - i by omega)
  rw [dv, ← hv, show i + (j - i) = j by omega, hd] at h4
  have := hID.2
  omega

set_option maxRecDepth 20000 in
set_option maxHeartbeats 4000000 in
theorem scan_any (G n i : Nat) (zs : List Int) (w : World) (hn : n ≤ 65536) (row : BRow w (some ⟨G, 0, none⟩) n zs) (hz : Bytes zs) (hi : i < n) :
    Calls Tryf.prog 24 #[.slice (some ⟨G, 0, none⟩) n n, .int .i64 i] w fun e w' => ScanOut zs n i w e w' := by
  have HROW : Hid (BRow w (some ⟨G, 0, none⟩) n zs) := row
  clear row
  go_enter Tryf.func24, Tryf.ntmps24
  go_wp2_with fail
  go_loop [1, 8] (fun x y => ∃ j v : Nat, i ≤ j ∧ j ≤ n ∧ x = .int .i64 j ∧ y = .int .u64 v ∧ (∀ k, i ≤ k → k < j → isDig (zs.getD k 0)) ∧ v = dv zs i (j - i) ∧ v ≤ 9223372036854775807) (fun x _ => n + 1 - (intOf x).toNat)
  case atStart => exact ⟨i, 0, Nat.le_refl _, by omega, rfl, rfl, fun k h1 h2 => by omega, by rw [Nat.sub_self]; rfl, by omega⟩
  case round =>
    obtain ⟨j, v, hij, hjn, rfl, rfl, hdig, hv, hmax⟩ := hrel
    have HD : Hid _ := hdig
    have HV : Hid _ := hv
    clear hdig hv
    by_cases hlt : j < n
    · obtain ⟨z, hz1, hz2, g0⟩ := byte_at HROW.out hz hlt
      have HZ : Hid _ := hz2
      clear hz2
      have hji : (j : Int) < (n : Int) := by omega
      have hwr := wrap8 z hz1
      obtain ⟨d, hd⟩ : ∃ d, d = (if 48 ≤ z then z - 48 else z + 208) := ⟨_, rfl⟩
      rw [← hd] at hwr
      have hd256 : d ≤ 255 := by rw [hd]; split <;> omega
      by_cases hdd : d ≤ 9
      · have hz48 : z = d + 48 := by
          by_cases h : 48 ≤ z
          · rw [if_pos h] at hd; omega
          · rw [if_neg h] at hd; omega
        have hdz : (zs.getD j 0 - 48).toNat = d := by rw [HZ.out]; omega
        have hnb : blank (zs.getD j 0) = false := by rw [HZ.out]; exact dig_not_blank ⟨by omega, by omega⟩
        have HDZ : Hid _ := hdz
        have HNB : Hid _ := hnb
        have HZ48 : Hid _ := hz48
        clear hd hdz hnb hz48
        have c1 : ¬ (9 : Int) < (d : Int) := by omega
        by_cases hov : 10 * v + d ≤ 9223372036854775807
        · have hrel2 : ∃ j' v' : Nat, i ≤ j' ∧ j' ≤ n ∧ Value.int .i64 ((j : Int) + 1) = .int .i64 j' ∧ Value.int .u64 (10 * (v : Int) + (d : Int)) = .int .u64 v' ∧ (∀ k, i ≤ k → k < j' → isDig (zs.getD k 0)) ∧ v' = dv zs i (j' - i) ∧ v' ≤ 9223372036854775807 := by
            refine ⟨j + 1, 10 * v + d, by omega, by omega, by push_cast; rfl, by push_cast; rfl, fun k h1 h2 => ?_, ?_, hov⟩
            · by_cases e : k = j
              · subst e
                rw [HZ.out]
                have := HZ48.out
                exact ⟨by omega, by omega⟩
              · exact HD.out k h1 (by omega)
            · rw [show j + 1 - i = j - i + 1 by omega, dv, ← HV.out, show i + (j - i) = j by omega, HDZ.out]
          have HREL : Hid _ := hrel2
          clear hrel2
          by_cases hA : v < 922337203685477580
          · have c2 : ¬ (922337203685477580 : Int) ≤ (v : Int) := by omega
            go_wp2_with fail
            go_round
            case rel => exact HREL.out
            case measure => simp [intOf]; omega
          · have c2 : (922337203685477580 : Int) ≤ (v : Int) := by omega
            have c3 : ¬ (922337203685477580 : Int) < (v : Int) := by omega
            have c4 : ¬ (7 : Int) < (d : Int) := by omega
            go_wp2_with fail
            go_round
            case rel => exact HREL.out
            case measure => simp [intOf]; omega
        · have c2 : (922337203685477580 : Int) ≤ (v : Int) := by omega
          have HOV : Hid (9223372036854775807 < 10 * v + d) := Nat.lt_of_not_le hov
          clear hov
          by_cases hC : 922337203685477580 < v
          · have c3 : (922337203685477580 : Int) < (v : Int) := by omega
            go_wp2_with (first
            | (go_at_call 29; refine (fieldEnd_any G n n j zs w (by omega) HROW.out (by omega)).mono ?_; rintro e w' ⟨k, rfl, hFE, rfl⟩; have hk1 : (i : Int) ≤ (k : Int) := (by have := hFE.le; omega); have hk2 : (k : Int) ≤ (n : Int) := (by have := hFE.top; omega); have hk3 : ¬ n = i := (by omega))
            | (go_at_call 30; refine (clip_any G i (k - i) (n - i) w (by omega) (some8 HROW.out (by omega))).mono ?_; rintro e w2 ⟨g, o, m, c2, rfl, h8, b2⟩)
            | (go_at_call 28; refine (errorfS w2.heap.size g o m c2 _ (one_cell w2 _ _) (h8.alloc _)).mono ?_; rintro e w4 ⟨⟨pp, rfl⟩, b4⟩))
            go_ret3
            exact ⟨(b2.trans ((Below.refl _ w2).alloc (Nat.le_refl _) _ |>.mono b2.size)).trans (b4.mono (by have := b2.size; simp; omega)), k, hFE.back hij (fun q h1 h2 => dig_not_blank (HD.out q h1 h2)), Or.inr ⟨not_id hFE hij hlt HNB.out HV.out HDZ.out HOV.out, pp, rfl⟩⟩
          · have c3 : ¬ (922337203685477580 : Int) < (v : Int) := by omega
            have c4 : (7 : Int) < (d : Int) := by have := HOV.out; omega
            go_wp2_with (first
            | (go_at_call 29; refine (fieldEnd_any G n n j zs w (by omega) HROW.out (by omega)).mono ?_; rintro e w' ⟨k, rfl, hFE, rfl⟩; have hk1 : (i : Int) ≤ (k : Int) := (by have := hFE.le; omega); have hk2 : (k : Int) ≤ (n : Int) := (by have := hFE.top; omega); have hk3 : ¬ n = i := (by omega))
            | (go_at_call 30; refine (clip_any G i (k - i) (n - i) w (by omega) (some8 HROW.out (by omega))).mono ?_; rintro e w2 ⟨g, o, m, c2, rfl, h8, b2⟩)
            | (go_at_call 28; refine (errorfS w2.heap.size g o m c2 _ (one_cell w2 _ _) (h8.alloc _)).mono ?_; rintro e w4 ⟨⟨pp, rfl⟩, b4⟩))
            go_ret3
            exact ⟨(b2.trans ((Below.refl _ w2).alloc (Nat.le_refl _) _ |>.mono b2.size)).trans (b4.mono (by have := b2.size; simp; omega)), k, hFE.back hij (fun q h1 h2 => dig_not_blank (HD.out q h1 h2)), Or.inr ⟨not_id hFE hij hlt HNB.out HV.out HDZ.out HOV.out, pp, rfl⟩⟩
      · have hnd : ¬ isDig (zs.getD j 0) := by
          rw [HZ.out]
          unfold isDig
          by_cases h : 48 ≤ z
          · rw [if_pos h] at hd; omega
          · omega
        have HND : Hid _ := hnd
        clear hd hnd
        have c1 : (9 : Int) < (d : Int) := by omega
        have hBl := blank31 z w
        cases hb : blank z with
        | true =>
          rw [hb] at hBl
          have hFE : FieldEnd zs n i j := ⟨hij, hjn, fun k h1 h2 => dig_not_blank (HD.out k h1 h2), fun _ => by rw [HZ.out]; exact hb⟩
          have hID : IsID zs i j := ⟨HD.out, by rw [← HV.out]; exact hmax⟩
          clear hb
          go_wp2_with (go_at_call 31; refine hBl.mono ?_; rintro e w' ⟨rfl, rfl⟩)
          go_ret3
          refine ⟨Below.refl _ _, j, hFE, Or.inl ⟨hID, ?_⟩⟩
          rw [← HV.out]
          rfl
        | false =>
          rw [hb] at hBl
          have HNB : Hid (blank (zs.getD j 0) = false) := by rw [HZ.out]; exact hb
          clear hb
          go_wp2_with (first
            | (go_at_call 31; refine hBl.mono ?_; rintro e w' ⟨rfl, rfl⟩)
            | (go_at_call 29; refine (fieldEnd_any G n n j zs w (by omega) HROW.out (by omega)).mono ?_; rintro e w' ⟨k, rfl, hFE, rfl⟩; have hk1 : (i : Int) ≤ (k : Int) := (by have := hFE.le; omega); have hk2 : (k : Int) ≤ (n : Int) := (by have := hFE.top; omega); have hk3 : ¬ n = i := (by omega))
            | (go_at_call 30; refine (clip_any G i (k - i) (n - i) w (by omega) (some8 HROW.out (by omega))).mono ?_; rintro e w2 ⟨g, o, m, c2, rfl, h8, b2⟩)
            | (go_at_call 28; refine (errorfQ w2.heap.size g o m c2 _ (one_cell w2 _ _) (h8.alloc _)).mono ?_; rintro e w4 ⟨⟨pp, rfl⟩, b4⟩))
          go_ret3
          refine ⟨(b2.trans ((Below.refl _ w2).alloc (Nat.le_refl _) _ |>.mono b2.size)).trans (b4.mono (by have := b2.size; simp; omega)), k, hFE.back hij (fun q h1 h2 => dig_not_blank (HD.out q h1 h2)), Or.inr ⟨fun hID => ?_, pp, rfl⟩⟩
          have hk : j < k := by
            rcases Nat.lt_or_ge j k with h1 | h1
            · exact h1
            · have h2 : k = j := by have := hFE.le; omega
              have h3 := hFE.last (by omega)
              rw [h2, HNB.out] at h3
              cases h3
          exact HND.out (hID.1 j hij hk)
    · obtain rfl : j = n := by omega
      have hFE : FieldEnd zs j i j := ⟨hij, Nat.le_refl _, fun k h1 h2 => dig_not_blank (HD.out k h1 h2), fun h => absurd h (Nat.lt_irrefl _)⟩
      have hID : IsID zs i j := ⟨HD.out, by rw [← HV.out]; exact hmax⟩
      have hvi : (v : Int) < 9223372036854775808 := by omega
      go_wp2_with fail
      go_ret3
      refine ⟨Below.refl _ _, j, hFE, Or.inl ⟨hID, ?_⟩⟩
      rw [← HV.out]
      rfl
end Go.Proofs.Qxb6003322aFmt
