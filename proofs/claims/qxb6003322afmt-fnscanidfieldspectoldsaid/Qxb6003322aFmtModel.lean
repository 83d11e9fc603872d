/-
  zzIDModel (12).
-/
import Derived.Test.Qxb6003322aFmtPlain
namespace Go.Proofs.Qxb6003322aFmt
open Go.RowKit Go.Extern.Stop Go.Stop Go.Extern

/-- z0 zeros lead, and no more (but for the last digit). -/
def Lead (zs : List Int) (i L z0 : Nat) : Prop := z0 < L ∧ (∀ k, k < z0 → zs.getD (i + k) 0 = 48) ∧ (z0 + 1 = L ∨ zs.getD (i + z0) 0 ≠ 48)
theorem Lead.val {zs : List Int} {i L z0 : Nat} (h : Lead zs i L z0) : dv zs i L = dv zs (i + z0) (L - z0) := by
  have := dv_split zs i z0 (L - z0)
  rw [show z0 + (L - z0) = L by have := h.1; omega, dv_zero h.2.1, Nat.zero_mul, Nat.zero_add] at this
  exact this
/-- How the model ends. -/
def ModelOut (zs : List Int) (G i L : Nat) (w : World) (e : Ending) (w' : World) : Prop :=
  (∃ q, w' = w.drewN q) ∧ ((¬ (Digs zs i L ∧ dv zs i L ≤ 9223372036854775807) ∧ e = .returned (.tuple #[.bool false, .slice none 0 0])) ∨
    (Digs zs i L ∧ dv zs i L ≤ 9223372036854775807 ∧ ∃ z0 c', Lead zs i L z0 ∧ e = .returned (.tuple #[.bool true, .slice (some ⟨G, i + z0, none⟩) (L - z0) c'])))
/-- The bytes of the field. -/
def Cells8 (w : World) (zs : List Int) (G i L : Nat) : Prop := ∀ j, j < L → ∃ b : Nat, b ≤ 255 ∧ zs.getD (i + j) 0 = b ∧ w.cell? ⟨G, i + j, none⟩ = some (.int .u8 b)
theorem out_long {zs : List Int} {i L z0 : Nat} (hd : Digs zs i L) (hl : Lead zs i L z0) (h : 19 < L - z0) : ¬ (Digs zs i L ∧ dv zs i L ≤ 9223372036854775807) := by
  rintro ⟨_, hv⟩
  rw [hl.val] at hv
  have h1 := hd.sub (a := z0) (b := L - z0) (by omega)
  obtain ⟨m, hm⟩ : ∃ m, L - z0 = m + 1 := ⟨L - z0 - 1, by omega⟩
  rw [hm] at hv h1
  have h2 := dv_ge h1 (by
    rcases hl.2.2 with h3 | h3
    · omega
    · exact h3)
  have h3 : 10 ^ 19 ≤ 10 ^ m := Nat.pow_le_pow_right (by omega) (by omega)
  have h4 : (10 : Nat) ^ 19 = 10000000000000000000 := by decide
  omega
theorem in_short {zs : List Int} {i L z0 : Nat} (hd : Digs zs i L) (hl : Lead zs i L z0) (h : L - z0 < 19) : dv zs i L ≤ 9223372036854775807 := by
  rw [hl.val]
  have h1 := dv_lt (hd.sub (a := z0) (b := L - z0) (by have := hl.1; omega))
  have h3 : 10 ^ (L - z0) ≤ 10 ^ 18 := Nat.pow_le_pow_right (by omega) (by omega)
  have h4 : (10 : Nat) ^ 18 = 1000000000000000000 := by decide
  omega

abbrev topS : ByteArray := ⟨#[57, 50, 50, 51, 51, 55, 50, 48, 51, 54, 56, 53, 52, 55, 55, 53, 56, 48, 55]⟩
theorem top_index (q : Nat) (hq : q < 19) (w : World) : (Instr.index 9 (.string topS) (.int .i64 q)).run Tryf.prog w = .ok (.int .u8 (top19.getD q 0)) w := by
  obtain rfl | rfl | rfl | rfl | rfl | rfl | rfl | rfl | rfl | rfl | rfl | rfl | rfl | rfl | rfl | rfl | rfl | rfl | rfl : q = 0 ∨ q = 1 ∨ q = 2 ∨ q = 3 ∨ q = 4 ∨ q = 5 ∨ q = 6 ∨ q = 7 ∨ q = 8 ∨ q = 9 ∨ q = 10 ∨ q = 11 ∨ q = 12 ∨ q = 13 ∨ q = 14 ∨ q = 15 ∨ q = 16 ∨ q = 17 ∨ q = 18 := by omega
  all_goals kernel_rfl
theorem top_byte (q : Nat) (hq : q < 19) : ∃ t : Nat, t ≤ 255 ∧ top19.getD q 0 = t := by
  have h := top_digs q hq
  rw [Nat.zero_add] at h
  unfold isDig at h
  exact ⟨(top19.getD q 0).toNat, by omega, by omega⟩
theorem over19 {zs : List Int} {i L z q : Nat} (hd : Digs zs i L) (hl : Lead zs i L z) (h19 : L - z = 19) (hq : q < 19) (he : ∀ j, j < q → zs.getD (i + z + j) 0 = top19.getD j 0) (hgt : top19.getD q 0 < zs.getD (i + z + q) 0) : ¬ (Digs zs i L ∧ dv zs i L ≤ 9223372036854775807) := by
  rintro ⟨_, hv⟩
  rw [hl.val, h19, ← top_val] at hv
  have h1 := hd.sub (a := z) (b := 19) (by omega)
  have := dv_less (zs := top19) (ys := zs) (i := 0) (c := i + z) (k := 19) (q := q) top_digs h1 hq (fun j hj => by rw [Nat.zero_add]; exact (he j hj).symm) (by rw [Nat.zero_add]; exact hgt)
  omega
theorem under19 {zs : List Int} {i L z q : Nat} (hd : Digs zs i L) (hl : Lead zs i L z) (h19 : L - z = 19) (hq : q < 19) (he : ∀ j, j < q → zs.getD (i + z + j) 0 = top19.getD j 0) (hgt : zs.getD (i + z + q) 0 < top19.getD q 0) : dv zs i L ≤ 9223372036854775807 := by
  rw [hl.val, h19, ← top_val]
  have h1 := hd.sub (a := z) (b := 19) (by omega)
  have := dv_less (zs := zs) (ys := top19) (i := i + z) (c := 0) (k := 19) (q := q) h1 top_digs hq (fun j hj => by rw [Nat.zero_add]; exact he j hj) (by rw [Nat.zero_add]; exact hgt)
  omega
theorem same19 {zs : List Int} {i L z : Nat} (hl : Lead zs i L z) (h19 : L - z = 19) (he : ∀ j, j < 19 → zs.getD (i + z + j) 0 = top19.getD j 0) : dv zs i L ≤ 9223372036854775807 := by
  rw [hl.val, h19, dv_congr (ys := top19) (c := 0) (fun j hj => by rw [Nat.zero_add]; exact he j hj), top_val]
  exact Nat.le_refl _

set_option maxRecDepth 20000 in
set_option maxHeartbeats 4000000 in
theorem idModel (G i L cap : Nat) (zs : List Int) (w : World) (hL : 1 ≤ L) (hL2 : L ≤ 65536) (hLc : L ≤ cap) (hc : Cells8 w zs G i L) :
    Calls Tryf.prog 12 #[.slice (some ⟨G, i, none⟩) L cap] w fun e w' => ModelOut zs G i L w e w' := by
  have HC : Hid _ := hc
  have hL0 : ((L : Int) == 0) = false := by simp; omega
  clear hc
  go_enter Tryf.func12, Tryf.ntmps12
  go_wp2_with fail
  go_loop [4] (fun x => ∃ k : Nat, k ≤ L ∧ x = .int .i64 k ∧ Digs zs i k) (fun x => L + 1 - (intOf x).toNat)
  case atStart => exact ⟨0, Nat.zero_le _, rfl, fun j hj => by omega⟩
  case round =>
    obtain ⟨k, hk, rfl, hdig⟩ := hrel
    have HD : Hid _ := hdig
    clear hdig
    by_cases hlt : k < L
    · obtain ⟨b, hb, hbz, g0⟩ := HC.out k hlt
      have HZ : Hid _ := hbz
      clear hbz
      have hkL : (k : Int) < (L : Int) := by omega
      by_cases h1 : b < 48
      · have c1 : (b : Int) < 48 := by omega
        have hno : ¬ (Digs zs i L ∧ dv zs i L ≤ 9223372036854775807) := fun h => by have := h.1 k hlt; rw [HZ.out] at this; unfold isDig at this; omega
        have HNO : Hid _ := hno
        clear hno
        go_wp2_with fail
        go_ret2
        exact ⟨⟨0, rfl⟩, Or.inl ⟨HNO.out, rfl⟩⟩
      · have c1 : ¬ (b : Int) < 48 := by omega
        by_cases h2 : 57 < b
        · have c2 : (57 : Int) < (b : Int) := by omega
          have hno : ¬ (Digs zs i L ∧ dv zs i L ≤ 9223372036854775807) := fun h => by have := h.1 k hlt; rw [HZ.out] at this; unfold isDig at this; omega
          have HNO : Hid _ := hno
          clear hno
          go_wp2_with fail
          go_ret2
          exact ⟨⟨0, rfl⟩, Or.inl ⟨HNO.out, rfl⟩⟩
        · have c2 : ¬ (57 : Int) < (b : Int) := by omega
          go_wp2_with fail
          go_round
          case rel => exact ⟨k + 1, by omega, by go_num, fun j hj => by
            by_cases e : j = k
            · subst e; rw [HZ.out]; exact ⟨by omega, by omega⟩
            · exact HD.out j (by omega)⟩
          case measure => simp [intOf]; omega
    · obtain rfl : k = L := by omega
      go_wp2_with fail
      go_loop [5] (fun x => ∃ z : Nat, z < k ∧ x = .int .i64 z ∧ ∀ j, j < z → zs.getD (i + j) 0 = 48) (fun x => k + 1 - (intOf x).toNat)
      case atStart => exact ⟨0, by omega, rfl, fun j hj => by omega⟩
      case round =>
        obtain ⟨z, hz, rfl, hzero⟩ := hrel
        have HZR : Hid _ := hzero
        clear hzero
        obtain ⟨b, hb, hbz, g0⟩ := HC.out z hz
        have HZ : Hid _ := hbz
        clear hbz
        have hzk : (z : Int) < (k : Int) := by omega
        by_cases hgo : z + 1 < k ∧ b = 48
        · obtain ⟨h1, rfl⟩ := hgo
          have c1 : (z : Int) < (k : Int) - 1 := by omega
          go_wp2_with fail
          go_round
          case rel => exact ⟨z + 1, by omega, by go_num, fun j hj => by
            by_cases e : j = z
            · subst e; exact HZ.out
            · exact HZR.out j (by omega)⟩
          case measure => simp [intOf]; omega
        · have hLead : Lead zs i k z := ⟨hz, HZR.out, by
            by_cases h : z + 1 = k
            · exact Or.inl h
            · refine Or.inr ?_
              rw [HZ.out]
              intro e
              exact hgo ⟨by omega, by omega⟩⟩
          have HLD : Hid _ := hLead
          clear hLead
          by_cases h1 : z + 1 < k
          · have c1 : (z : Int) < (k : Int) - 1 := by omega
            have c2 : ((b : Int) == 48) = false := by simp; intro e; exact hgo ⟨h1, by omega⟩
            clear hgo
            have ncz : ¬ cap = z := by omega
            have hzk2 : (z : Int) ≤ (k : Int) := by omega
            rcases Nat.lt_trichotomy (k - z) 19 with h19 | h19 | h19
            · have e1 : ¬ (19 : Int) < ((k - z : Nat) : Int) := by omega
              have e2 : (((k - z : Nat) : Int) == 19) = false := by simp; omega
              go_wp2_with fail
              go_ret2
              exact ⟨⟨0, rfl⟩, Or.inr ⟨HD.out, in_short HD.out HLD.out h19, z, _, HLD.out, rfl⟩⟩
            · have e1 : ¬ (19 : Int) < ((k - z : Nat) : Int) := by omega
              have e2 : (((k - z : Nat) : Int) == 19) = true := by simp; omega
              have HK : Hid (k - z = 19) := h19
              go_wp2_with fail
              clear c1 g0
              go_loopw [7] (fun x wr => ∃ q : Nat, q ≤ 19 ∧ x = .int .i64 q ∧ (∀ j, j < q → zs.getD (i + z + j) 0 = top19.getD j 0) ∧ ∃ d, wr = w.drewN d) (fun x _ => 20 - (intOf x).toNat)
              case atStart => exact ⟨0, Nat.zero_le _, rfl, fun j hj => by omega, 0, rfl⟩
              case round =>
                obtain ⟨q, hq, rfl, he, d, rfl⟩ := hrel
                have HE : Hid _ := he
                clear he
                by_cases hq19 : q < 19
                · obtain ⟨b2, hb2, hbz2, g2⟩ := HC.out (z + q) (by omega)
                  rw [← Nat.add_assoc] at hbz2 g2
                  have HZ2 : Hid _ := hbz2
                  obtain ⟨t, ht, htt⟩ := top_byte q hq19
                  have hix := fun w => top_index q hq19 w
                  rw [htt] at hix
                  have HT : Hid _ := htt
                  clear hbz2 htt
                  have f1 : (q : Int) < ((k - z : Nat) : Int) := by omega
                  rcases Nat.lt_trichotomy b2 t with h | h | h
                  · have f2 : ((b2 : Int) != (t : Int)) = true := by simp; omega
                    have f3 : ¬ (t : Int) < (b2 : Int) := by omega
                    go_wp2_with fail
                    go_quiet (fail)
                    go_wp2_with fail
                    go_quiet (fail)
                    go_wp2_with fail
                    go_ret2
                    exact ⟨⟨_, by first | rfl | exact World.drewN_drewN .. | (rw [World.drewN_drewN]; exact World.drewN_drewN ..)⟩, Or.inr ⟨HD.out, under19 HD.out HLD.out HK.out hq19 HE.out (by rw [HZ2.out, HT.out]; omega), z, _, HLD.out, by rw [HK.out]; rfl⟩⟩
                  · subst h
                    have f2 : ((b2 : Int) != (b2 : Int)) = false := by simp
                    go_wp2_with fail
                    go_quiet (fail)
                    go_wp2_with fail
                    go_roundw
                    case rel => exact ⟨q + 1, by omega, by go_num, fun j hj => by
                      by_cases e : j = q
                      · subst e; rw [HZ2.out, HT.out]
                      · exact HE.out j (by omega), _, rfl⟩
                    case measure => simp [intOf]; omega
                  · have f2 : ((b2 : Int) != (t : Int)) = true := by simp; omega
                    have f3 : (t : Int) < (b2 : Int) := by omega
                    go_wp2_with fail
                    go_quiet (fail)
                    go_wp2_with fail
                    go_quiet (fail)
                    go_wp2_with fail
                    go_ret2
                    exact ⟨⟨_, by first | rfl | exact World.drewN_drewN .. | (rw [World.drewN_drewN]; exact World.drewN_drewN ..)⟩, Or.inl ⟨over19 HD.out HLD.out HK.out hq19 HE.out (by rw [HZ2.out, HT.out]; omega), rfl⟩⟩
                · obtain rfl : q = 19 := by omega
                  have f1 : ¬ ((19 : Nat) : Int) < ((k - z : Nat) : Int) := by omega
                  go_wp2_with fail
                  go_ret2
                  exact ⟨⟨_, by first | rfl | exact World.drewN_drewN .. | (rw [World.drewN_drewN]; exact World.drewN_drewN ..)⟩, Or.inr ⟨HD.out, same19 HLD.out HK.out HE.out, z, _, HLD.out, by rw [HK.out]; rfl⟩⟩
            · have e1 : (19 : Int) < ((k - z : Nat) : Int) := by omega
              go_wp2_with fail
              go_ret2
              exact ⟨⟨0, rfl⟩, Or.inl ⟨out_long HD.out HLD.out h19, rfl⟩⟩
          · have c1 : ¬ (z : Int) < (k : Int) - 1 := by omega
            clear hgo
            have ncz : ¬ cap = z := by omega
            have hzk2 : (z : Int) ≤ (k : Int) := by omega
            rcases Nat.lt_trichotomy (k - z) 19 with h19 | h19 | h19
            · have e1 : ¬ (19 : Int) < ((k - z : Nat) : Int) := by omega
              have e2 : (((k - z : Nat) : Int) == 19) = false := by simp; omega
              go_wp2_with fail
              go_ret2
              exact ⟨⟨0, rfl⟩, Or.inr ⟨HD.out, in_short HD.out HLD.out h19, z, _, HLD.out, rfl⟩⟩
            · omega
            · have e1 : (19 : Int) < ((k - z : Nat) : Int) := by omega
              go_wp2_with fail
              go_ret2
              exact ⟨⟨0, rfl⟩, Or.inl ⟨out_long HD.out HLD.out h19, rfl⟩⟩
end Go.Proofs.Qxb6003322aFmt
