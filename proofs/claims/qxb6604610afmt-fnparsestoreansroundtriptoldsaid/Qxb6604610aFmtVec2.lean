/-
  vector (44), Vector8 (34), Vector16 (45).
-/
import Derived.Test.Qxb6604610aFmtVec
namespace Go.Proofs.Qxb6604610aFmt
open Go.RowKit Go.Extern.Stop Go.Stop Go.Extern

/-- The number that k bytes from off on write, the greatest first. -/
def lenV (zs : List Int) (off : Nat) : Nat → Nat
  | 0 => 0
  | k + 1 => lenV zs off k * 256 + (zs.getD (off + k) 0).toNat
/-- Bytes. -/
def Bytes (zs : List Int) : Prop := ∀ i, 0 ≤ zs.getD i 0 ∧ zs.getD i 0 ≤ 255
theorem lenV_two {zs : List Int} (hz : Bytes zs) (off k : Nat) (hk : k ≤ 2) : lenV zs off k ≤ 65535 ∧ (k ≤ 1 → lenV zs off k ≤ 255) := by
  have h0 := hz (off + 0)
  have h1 := hz (off + 1)
  match k, hk with
  | 0, _ => simp [lenV]
  | 1, _ => simp only [lenV]; omega
  | 2, _ => simp only [lenV]; omega
theorem cutA_pos (b off n : Nat) (h : 0 < n) : cutA b off n = some ⟨b, off, none⟩ := by
  unfold cutA; rw [if_neg (by omega)]

theorem or256 (v z : Nat) (hz : z < 256) : (v * 256 ||| z) = v * 256 + z := by
  have h := Nat.two_pow_add_eq_or_of_lt (i := 8) (b := z) hz v
  rw [show (2 : Nat) ^ 8 = 256 from rfl, Nat.mul_comm 256 v] at h
  exact h.symm
theorem or_u64 (v z : Nat) (hv : v ≤ 72057594037927935) (hz : z < 256) : Value.int .u64 (bits .or .u64 ((v : Int) * 256) (z : Int)) = .int .u64 ((v * 256 + z : Nat) : Int) := by
  have e : (v : Int) * 256 = ((v * 256 : Nat) : Int) := by omega
  rw [e, u64_or_nat (v * 256) z (by omega) (by omega), or256 v z hz]

set_option maxHeartbeats 2000000 in
theorem vector_short (p off en s g : Nat) (cb : Array Value) (bv : Value) (w : World) (h : Rd w p bv off en .nilIface) (hoe : off ≤ en) (hs : en < off + s) (hen : en ≤ 2097152) :
    Calls Tryf.prog 44 #[.pointer (some ⟨p, 0, none⟩), .int .i64 s, .func (.func g) #[] cb] w fun e w' => e = .returned (.tuple #[]) ∧ ∃ pe, Rd w' p bv off en (faultV pe) ∧ FaultAt w' pe off ∧ pe ≠ p ∧ Only p w w' := by
  obtain ⟨c0, c1, c2, c3⟩ := h.cells
  have hT := take_past p off en bv s w h hoe hen (by omega)
  clear h
  go_enter Tryf.func44, Tryf.ntmps44
  go_wp2_with (go_at_call 38; refine hT.mono ?_; rintro e w1 ⟨rfl, pe, hr1, hf1, hne1, ho1⟩; obtain ⟨-, -, -, d3⟩ := hr1.cells)
  exact bodyPost_ret (v := .tuple #[]) (by simp [results, Tryf.results44]) rfl ⟨rfl, _, hr1, hf1, hne1, ho1⟩

set_option maxHeartbeats 2000000 in
theorem vector_ok (p off en s g b len cap : Nat) (cb : Array Value) (zs : List Int) (w : World) (POST : World → Prop) (h : Rd w p (.slice (some ⟨b, 0, none⟩) len cap) off en .nilIface)
    (hbp : b ≠ p) (row : BRow w (some ⟨b, 0, none⟩) len zs) (hz : Bytes zs) (hel : en ≤ len) (hlc : len ≤ cap) (hen : en ≤ 2097152) (hs1 : 1 ≤ s) (hs2 : s ≤ 2) (hs : off + s + lenV zs off s ≤ en)
    (eg : ∀ args w, (callFunc g args).run Tryf.prog w = .ok (.enter g args) w)
    (hbody : ∀ w1, Rd w1 p (.slice (some ⟨b, 0, none⟩) len cap) (off + s) (off + s + lenV zs off s) .nilIface → Only p w w1 → Calls Tryf.prog g cb w1 fun e w2 => e = .returned (.tuple #[]) ∧ POST w2)
    (hpost : ∀ w2, POST w2 → ∃ off2 err, Rd w2 p (.slice (some ⟨b, 0, none⟩) len cap) off2 (off + s + lenV zs off s) err ∧ ((err = .nilIface ∧ off2 = off + s + lenV zs off s) ∨ ∃ pe, err = faultV pe)) :
    Calls Tryf.prog 44 #[.pointer (some ⟨p, 0, none⟩), .int .i64 s, .func (.func g) #[] cb] w fun e w' => e = .returned (.tuple #[]) ∧ ∃ w2 q, POST w2 ∧ w' = (w2.setCell ⟨p, 2, none⟩ (.int .i64 en)).drewN q := by
  obtain ⟨c0, c1, c2, c3⟩ := h.cells
  have hT := take_ok p off en s b len cap w h (by omega) (by omega) hen
  rw [cutA_pos b off s (by omega)] at hT
  have HW : Hid (∀ w1, Rd w1 p (.slice (some ⟨b, 0, none⟩) len cap) (off + s) en .nilIface → Only p w w1 → Calls Tryf.prog 48 #[.pointer (some ⟨p, 0, none⟩), .int .i64 off, .int .u64 (lenV zs off s), .func (.func g) #[] cb] w1 fun e w' => e = .returned (.tuple #[]) ∧ ∃ w2 q, POST w2 ∧ w' = (w2.setCell ⟨p, 2, none⟩ (.int .i64 en)).drewN q) :=
    (fun w1 hr1 ho1 => within_ok p (off + s) en (lenV zs off s) off g cb _ w1 POST hr1 hs hen eg (fun w2 hr2 ho2 => hbody w2 hr2 (ho1.trans ho2)) hpost :
      ∀ w1, Rd w1 p (.slice (some ⟨b, 0, none⟩) len cap) (off + s) en .nilIface → Only p w w1 → Calls Tryf.prog 48 #[.pointer (some ⟨p, 0, none⟩), .int .i64 off, .int .u64 (lenV zs off s), .func (.func g) #[] cb] w1 fun e w' => e = .returned (.tuple #[]) ∧ ∃ w2 q, POST w2 ∧ w' = (w2.setCell ⟨p, 2, none⟩ (.int .i64 en)).drewN q)
  clear h eg hbody hpost
  go_enter Tryf.func44, Tryf.ntmps44
  go_wp2_with (go_at_call 38; refine hT.mono ?_; rintro e w1 ⟨rfl, hr1, ho1⟩; obtain ⟨-, -, -, d3⟩ := hr1.cells)
  have row1 := row.only ho1 (fun x hx => by cases hx; exact hbp)
  clear hT row
  go_loop [8, 25] (fun v i => ∃ k : Nat, k ≤ s ∧ i = .int .i64 k ∧ v = .int .u64 (lenV zs off k)) (fun _ i => s + 1 - (intOf i).toNat)
  case atStart => exact ⟨0, Nat.zero_le _, rfl, rfl⟩
  case round =>
    obtain ⟨k, hk, rfl, rfl⟩ := hrel
    by_cases hlt : k < s
    · obtain ⟨b', off', hx, hc⟩ := row1.2 (by omega)
      obtain ⟨rfl, rfl⟩ : b = b' ∧ 0 = off' := by simpa using hx
      have g0 := hc (off + k) (by omega)
      rw [Nat.zero_add] at g0
      obtain ⟨z, hzz⟩ : ∃ z : Nat, zs.getD (off + k) 0 = z := ⟨(zs.getD (off + k) 0).toNat, by have := hz (off + k); omega⟩
      have hzb : z ≤ 255 := by have := hz (off + k); omega
      have hst : lenV zs off (k + 1) = lenV zs off k * 256 + z := by simp only [lenV]; rw [hzz]; rfl
      rw [hzz] at g0
      have hv := (lenV_two hz off k (by omega)).2 (by omega)
      have HST : Hid (lenV zs off (k + 1) = lenV zs off k * 256 + z) := hst
      clear hst hzz hc hx
      generalize lenV zs off k = v at hv HST ⊢
      go_wp2
      go_round
      case rel => exact ⟨k + 1, by omega, by go_num, by rw [HST.out]; exact or_u64 v z (by omega) (by omega)⟩
      case measure => simp [intOf]; omega
    · obtain rfl : k = s := by omega
      go_wp2_with (go_at_call 48; refine (HW.out w1 hr1 ho1).mono ?_; rintro e w' ⟨rfl, hP⟩)
      go_end0
      exact ⟨rfl, hP⟩

set_option maxHeartbeats 2000000 in
theorem vector_past (p off en s g b len cap : Nat) (cb : Array Value) (zs : List Int) (w : World) (h : Rd w p (.slice (some ⟨b, 0, none⟩) len cap) off en .nilIface)
    (hbp : b ≠ p) (row : BRow w (some ⟨b, 0, none⟩) len zs) (hz : Bytes zs) (hel : en ≤ len) (hlc : len ≤ cap) (hen : en ≤ 2097152) (hs1 : 1 ≤ s) (hs2 : s ≤ 2) (hse : off + s ≤ en) (hs : en < off + s + lenV zs off s) :
    Calls Tryf.prog 44 #[.pointer (some ⟨p, 0, none⟩), .int .i64 s, .func (.func g) #[] cb] w fun e w' => e = .returned (.tuple #[]) ∧ ∃ pe, Rd w' p (.slice (some ⟨b, 0, none⟩) len cap) (off + s) en (faultV pe) ∧ FaultAt w' pe off ∧ pe ≠ p ∧ Only p w w' := by
  obtain ⟨c0, c1, c2, c3⟩ := h.cells
  have hT := take_ok p off en s b len cap w h (by omega) (by omega) hen
  rw [cutA_pos b off s (by omega)] at hT
  have HW : Hid (∀ w1, Rd w1 p (.slice (some ⟨b, 0, none⟩) len cap) (off + s) en .nilIface → Calls Tryf.prog 48 #[.pointer (some ⟨p, 0, none⟩), .int .i64 off, .int .u64 (lenV zs off s), .func (.func g) #[] cb] w1 fun e w' => e = .returned (.tuple #[]) ∧ ∃ pe, Rd w' p (.slice (some ⟨b, 0, none⟩) len cap) (off + s) en (faultV pe) ∧ FaultAt w' pe off ∧ pe ≠ p ∧ Only p w1 w') :=
    (fun w1 hr1 => within_past p (off + s) en (lenV zs off s) off g cb _ w1 hr1 hse hs hen :
      ∀ w1, Rd w1 p (.slice (some ⟨b, 0, none⟩) len cap) (off + s) en .nilIface → Calls Tryf.prog 48 #[.pointer (some ⟨p, 0, none⟩), .int .i64 off, .int .u64 (lenV zs off s), .func (.func g) #[] cb] w1 fun e w' => e = .returned (.tuple #[]) ∧ ∃ pe, Rd w' p (.slice (some ⟨b, 0, none⟩) len cap) (off + s) en (faultV pe) ∧ FaultAt w' pe off ∧ pe ≠ p ∧ Only p w1 w')
  clear h
  go_enter Tryf.func44, Tryf.ntmps44
  go_wp2_with (go_at_call 38; refine hT.mono ?_; rintro e w1 ⟨rfl, hr1, ho1⟩; obtain ⟨-, -, -, d3⟩ := hr1.cells)
  have row1 := row.only ho1 (fun x hx => by cases hx; exact hbp)
  clear hT row
  go_loop [8, 25] (fun v i => ∃ k : Nat, k ≤ s ∧ i = .int .i64 k ∧ v = .int .u64 (lenV zs off k)) (fun _ i => s + 1 - (intOf i).toNat)
  case atStart => exact ⟨0, Nat.zero_le _, rfl, rfl⟩
  case round =>
    obtain ⟨k, hk, rfl, rfl⟩ := hrel
    by_cases hlt : k < s
    · obtain ⟨b', off', hx, hc⟩ := row1.2 (by omega)
      obtain ⟨rfl, rfl⟩ : b = b' ∧ 0 = off' := by simpa using hx
      have g0 := hc (off + k) (by omega)
      rw [Nat.zero_add] at g0
      obtain ⟨z, hzz⟩ : ∃ z : Nat, zs.getD (off + k) 0 = z := ⟨(zs.getD (off + k) 0).toNat, by have := hz (off + k); omega⟩
      have hzb : z ≤ 255 := by have := hz (off + k); omega
      have hst : lenV zs off (k + 1) = lenV zs off k * 256 + z := by simp only [lenV]; rw [hzz]; rfl
      rw [hzz] at g0
      have hv := (lenV_two hz off k (by omega)).2 (by omega)
      have HST : Hid (lenV zs off (k + 1) = lenV zs off k * 256 + z) := hst
      clear hst hzz hc hx
      generalize lenV zs off k = v at hv HST ⊢
      go_wp2
      go_round
      case rel => exact ⟨k + 1, by omega, by go_num, by rw [HST.out]; exact or_u64 v z (by omega) (by omega)⟩
      case measure => simp [intOf]; omega
    · obtain rfl : k = s := by omega
      go_wp2_with (go_at_call 48; refine (HW.out w1 hr1).mono ?_; rintro e w' ⟨rfl, pe, hr2, hf2, hn2, ho2⟩)
      go_end0
      exact ⟨rfl, pe, hr2, hf2, hn2, ho1.trans ho2⟩
end Go.Proofs.Qxb6604610aFmt
