/-
  The leaves of the road: zzStrictlyAscending (9), zzNoZero (10), zzAsked (18): each computes a plain function.
-/
import Derived.Test.Qxb6604485aProg
import Derived.WalkKit
import Derived.WalkSpells
import Derived.WalkLawsBesides
import Derived.Deep.QuietTactic
import Derived.BigQuiet
namespace Go.Proofs.Qxb6604485a
open Go.RowKit

/-! ### Plain functions -/
def ascB (zs : List Int) : Nat → Bool
  | 0 => true
  | n + 1 => ascB zs n && (n == 0 || decide (zs.getD (n - 1) 0 < zs.getD n 0))
def nzB (zs : List Int) : Nat → Bool
  | 0 => true
  | n + 1 => nzB zs n && decide (zs.getD n 0 ≠ 0)

theorem ascB_false_of {zs : List Int} {k n : Nat} (hk : 1 ≤ k) (hn : k < n) (h : zs.getD k 0 ≤ zs.getD (k - 1) 0) : ascB zs n = false := by
  induction n with
  | zero => omega
  | succ m ih =>
    by_cases e : k = m
    · subst e
      simp only [ascB, Bool.and_eq_false_iff]
      right
      have : (k == 0) = false := by simp; omega
      rw [this]
      simp only [Bool.false_or, decide_eq_false_iff_not]
      omega
    · simp only [ascB, ih (by omega), Bool.false_and]
theorem ascB_succ {zs : List Int} {k : Nat} (h : ascB zs k = true) (hlt : zs.getD (k - 1) 0 < zs.getD k 0) : ascB zs (k + 1) = true := by
  simp only [ascB, h, Bool.true_and, Bool.or_eq_true, decide_eq_true_eq]
  exact Or.inr hlt
theorem nzB_false_of {zs : List Int} {k n : Nat} (hn : k < n) (h : zs.getD k 0 = 0) : nzB zs n = false := by
  induction n with
  | zero => omega
  | succ m ih =>
    by_cases e : k = m
    · subst e; simp only [nzB, h]; simp
    · simp only [nzB, ih (by omega), Bool.false_and]
theorem nzB_succ {zs : List Int} {k : Nat} (h : nzB zs k = true) (hz : zs.getD k 0 ≠ 0) : nzB zs (k + 1) = true := by
  simp only [nzB, h, Bool.true_and, decide_eq_true_eq]; exact hz

theorem ret_bool {a b : Bool} (h : a = b) : Ending.returned (.bool a) = .returned (.bool b) := by rw [h]

/-- The element's cells of a slice of int64. -/
def RowAt (w : World) (a : Option Addr) (n : Nat) (zs : List Int) : Prop :=
  n ≤ zs.length ∧ (0 < n → ∃ b off, a = some ⟨b, off, none⟩ ∧ ∀ i, i < n → w.cell? ⟨b, off + i, none⟩ = some (.int .i64 (zs.getD i 0)))

theorem RowAt.drewN {w : World} {a : Option Addr} {n : Nat} {zs : List Int} (h : RowAt w a n zs) (q : Nat) : RowAt (w.drewN q) a n zs := h

set_option maxHeartbeats 1000000 in
theorem asc_any (a : Option Addr) (n cap : Nat) (zs : List Int) (w : World) (hn : n ≤ 65536) (hr : RowAt w a n zs) :
    Calls Try.prog 9 #[.slice a n cap] w fun e w' => e = .returned (.bool (ascB zs n)) ∧ ∃ q, w' = w.drewN q := by
  go_enter Try.func9, Try.ntmps9
  go_wp2
  go_loopw [3] (fun i wr => ∃ k q : Nat, 1 ≤ k ∧ (k ≤ n ∨ k = 1) ∧ i = .int .i64 k ∧ ascB zs k = true ∧ wr = w.drewN q) (fun i _ => n + 1 - (intOf i).toNat)
  case atStart => exact ⟨1, 0, Nat.le_refl _, Or.inr rfl, rfl, by simp [ascB], rfl⟩
  case round =>
    obtain ⟨k, q, hk1, hk2, rfl, hasc, rfl⟩ := hrel
    have HA : Hid (ascB zs k = true) := hasc
    clear hasc
    by_cases hlt : k < n
    · obtain ⟨b, off, rfl, hc⟩ := hr.2 (by omega)
      have h0 := hc (k - 1) (by omega)
      have h1 := hc k hlt
      have e0 : ((k : Int) - 1).toNat = k - 1 := by omega
      have hi0 : (0 : Int) ≤ (k : Int) - 1 := by omega
      have hi1 : (k : Int) - 1 < (n : Int) := by omega
      have hi2 : (k : Int) < (n : Int) := by omega
      clear hc
      go_wp2
      go_quiet (fail)
      go_wp2
      · have hle : zs[k]?.getD 0 ≤ zs[k - 1]?.getD 0 := by assumption
        go_ret
        exact ⟨ret_bool (ascB_false_of hk1 hlt (by simpa using hle)).symm, q + nq, by simp⟩
      · have hls : zs[k - 1]?.getD 0 < zs[k]?.getD 0 := by assumption
        go_roundw
        case rel => exact ⟨k + 1, q + nq, by omega, Or.inl (by omega), by go_num, ascB_succ HA.out (by simpa using hls), rfl⟩
        case measure => simp [intOf]; omega
    · have ek : ascB zs n = true := by
        rcases hk2 with h | h
        · rw [show n = k by omega]; exact HA.out
        · rcases Nat.lt_or_ge n 1 with h0 | h0
          · rw [show n = 0 by omega]; rfl
          · rw [show n = k by omega]; exact HA.out
      have EK : Hid (ascB zs n = true) := ek
      clear ek
      go_wp2
      go_ret
      exact ⟨ret_bool EK.out.symm, q, rfl⟩

set_option maxHeartbeats 1000000 in
theorem nz_any (a : Option Addr) (n cap : Nat) (zs : List Int) (w : World) (hn : n ≤ 65536) (hr : RowAt w a n zs) :
    Calls Try.prog 10 #[.slice a n cap] w fun e w' => e = .returned (.bool (nzB zs n)) ∧ w' = w := by
  go_enter Try.func10, Try.ntmps10
  go_wp2
  go_loop [3] (fun i => ∃ k : Nat, k ≤ n ∧ i = .int .i64 k ∧ nzB zs k = true) (fun i => n + 1 - (intOf i).toNat)
  case atStart => exact ⟨0, Nat.zero_le _, rfl, rfl⟩
  case round =>
    obtain ⟨k, hk, rfl, hnz⟩ := hrel
    have HA : Hid (nzB zs k = true) := hnz
    clear hnz
    by_cases hlt : k < n
    · obtain ⟨b, off, rfl, hc⟩ := hr.2 (by omega)
      have h1 := hc k hlt
      clear hc
      go_wp2
      · have hz : zs[k]?.getD 0 = 0 := by first | assumption | (simp_all; done)
        go_ret
        exact ⟨ret_bool (nzB_false_of hlt (by simpa using hz)).symm, rfl⟩
      · have hne : (zs[k]?.getD 0 == 0) = false := by assumption
        go_round
        case rel => exact ⟨k + 1, by omega, by go_num, nzB_succ HA.out (by simpa using hne)⟩
        case measure => simp [intOf]; omega
    · have ek : nzB zs n = true := by rw [show n = k by omega]; exact HA.out
      have EK : Hid (nzB zs n = true) := ek
      clear ek
      go_wp2
      go_ret
      exact ⟨ret_bool EK.out.symm, rfl⟩

/-- The part of device x among the parts: its thousandths; 0 where it has none. -/
def ofM (xs ms : List Int) (x : Int) : Nat → Int
  | 0 => 0
  | n + 1 => if xs.getD n 0 = x then ms.getD n 0 else ofM xs ms x n

theorem asc_lt {xs : List Int} {n : Nat} (h : ascB xs n = true) : ∀ i j, i < j → j < n → xs.getD i 0 < xs.getD j 0 := by
  induction n with
  | zero => intro i j _ h2; omega
  | succ m ih =>
    simp only [ascB, Bool.and_eq_true, Bool.or_eq_true, decide_eq_true_eq, beq_iff_eq] at h
    intro i j h1 h2
    by_cases e : j = m
    · subst e
      rcases h.2 with h0 | hlt
      · omega
      · by_cases ei : i = j - 1
        · subst ei; exact hlt
        · have := ih h.1 i (j - 1) (by omega) (by omega); omega
    · exact ih h.1 i j h1 (by omega)

theorem ofM_absent {xs ms : List Int} {x : Int} {n : Nat} (h : ∀ j, j < n → xs.getD j 0 ≠ x) : ofM xs ms x n = 0 := by
  induction n with
  | zero => rfl
  | succ m ih => rw [ofM, if_neg (h m (by omega))]; exact ih fun j hj => h j (by omega)
theorem ofM_at {xs ms : List Int} {x : Int} {n : Nat} (h : ascB xs n = true) {p : Nat} (hp : p < n) (hx : xs.getD p 0 = x) : ofM xs ms x n = ms.getD p 0 := by
  induction n with
  | zero => omega
  | succ m ih =>
    by_cases e : p = m
    · subst e; rw [ofM, if_pos hx]
    · have := asc_lt h p m (by omega) (by omega)
      rw [ofM, if_neg (by omega)]
      exact ih (by simp only [ascB, Bool.and_eq_true] at h; exact h.1) (by omega)

/-- Asked: by a part above zero. -/
def askB (xs ms : List Int) (x : Int) (n : Nat) : Bool := decide (0 < ofM xs ms x n)

set_option maxHeartbeats 1000000 in
theorem asked_any (a0 a1 : Option Addr) (n c0 c1 : Nat) (xs ms : List Int) (x : Int) (w : World) (hn : n ≤ 65536) (h0 : RowAt w a0 n xs) (h1 : RowAt w a1 n ms) (HA : Hid (ascB xs n = true)) :
    Calls Try.prog 18 #[.slice a0 n c0, .slice a1 n c1, .int .i64 x] w fun e w' => e = .returned (.bool (askB xs ms x n)) ∧ w' = w := by
  go_enter Try.func18, Try.ntmps18
  go_wp2
  go_loop [7] (fun i => ∃ k : Nat, k ≤ n ∧ i = .int .i64 k ∧ Hid (∀ j, j < k → xs.getD j 0 ≠ x)) (fun i => n + 1 - (intOf i).toNat)
  case atStart => exact ⟨0, Nat.zero_le _, rfl, (fun j hj => absurd hj (Nat.not_lt_zero _) : ∀ j, j < 0 → xs.getD j 0 ≠ x)⟩
  case round =>
    obtain ⟨k, hk, rfl, HN⟩ := hrel
    by_cases hlt : k < n
    · obtain ⟨b, off, rfl, hc⟩ := h0.2 (by omega)
      obtain ⟨b1, off1, rfl, hc1⟩ := h1.2 (by omega)
      have g0 := hc k hlt
      have g1 := hc1 k hlt
      clear hc hc1
      by_cases hx : xs.getD k 0 = x
      · have HE : Hid (askB xs ms x n = decide (0 < ms.getD k 0)) := (by unfold askB; rw [ofM_at HA.out hlt hx] : askB xs ms x n = decide (0 < ms.getD k 0))
        have hx' : (xs[k]?.getD 0 == x) = true := by simpa using hx
        clear hx
        go_wp2
        go_ret
        exact ⟨ret_bool (by rw [HE.out]; simp), rfl⟩
      · have hx' : (xs[k]?.getD 0 == x) = false := by simpa using hx
        have HN' : Hid (∀ j, j < k + 1 → xs.getD j 0 ≠ x) := (by
          intro j hj
          by_cases e : j = k
          · subst e; exact hx
          · exact HN.out j (by omega) : ∀ j, j < k + 1 → xs.getD j 0 ≠ x)
        clear hx
        go_wp2
        go_round
        case rel => exact ⟨k + 1, by omega, by go_num, HN'⟩
        case measure => simp [intOf]; omega
    · have HE : Hid (askB xs ms x n = false) := (by unfold askB; rw [ofM_absent (fun j hj => HN.out j (by omega))]; rfl : askB xs ms x n = false)
      go_wp2
      go_ret
      exact ⟨ret_bool HE.out.symm, rfl⟩

end Go.Proofs.Qxb6604485a
