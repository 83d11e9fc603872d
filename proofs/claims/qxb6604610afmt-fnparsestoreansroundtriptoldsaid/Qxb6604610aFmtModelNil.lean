/-
  storeAnsModel (27) where the answer was refused.
-/
import Derived.Test.Qxb6604610aFmtFacts
namespace Go.Proofs.Qxb6604610aFmt
open Go.RowKit Go.Extern.Stop Go.Stop Go.Extern

theorem nil45 : ∀ w, (binOp .eql 45 (.slice none 0 0) (.slice none 0 0)).run Tryf.prog w = .ok (.bool true) w := fun w => by
  have h := Lib.run_eql_slice_nil (P := Tryf.prog) w 45 64 none 0 0 0 0 Tryf.underlying45
  simpa using h

set_option maxRecDepth 20000 in
set_option maxHeartbeats 4000000 in
theorem model_short (a : Option Addr) (n c s : Nat) (w : World) (hn : n < 2) :
    Calls Tryf.prog 27 #[.slice a n c, .int .i64 s, .slice none 0 0] w fun e w' => e = .returned (.tuple #[.bool true, .int .i64 (0 : Nat), .bool true]) ∧ Below w.heap.size w w' := by
  have h1 : (n : Int) < 2 := by omega
  have hnl := nil45
  go_enter Tryf.func27, Tryf.ntmps27
  go_wp2_with fail
  go_ret3
  exact ⟨rfl, Below.refl _ _⟩

set_option maxRecDepth 20000 in
set_option maxHeartbeats 4000000 in
theorem model_past (G n s l : Nat) (zs : List Int) (w : World) (row : BRow w (some ⟨G, 0, none⟩) n zs) (hz : Bytes zs) (hn : n ≤ 1048576) (h2 : 2 ≤ n) (hl : l = lenV zs 0 2) (hp : n < 2 + l) :
    Calls Tryf.prog 27 #[.slice (some ⟨G, 0, none⟩) n n, .int .i64 s, .slice none 0 0] w fun e w' => e = .returned (.tuple #[.bool true, .int .i64 (0 : Nat), .bool true]) ∧ Below w.heap.size w w' := by
  obtain ⟨z0, z1, b0, b1, g0, g1, hor⟩ := two_at row hz (o := 0) (by omega)
  rw [← hl] at hor
  have hlt2 : ¬ (n : Int) < 2 := by omega
  have hll : (n : Int) - 2 < (l : Int) := by omega
  have hnl := nil45
  clear hl row
  go_enter Tryf.func27, Tryf.ntmps27
  go_wp2_with fail
  go_quiet (fail)
  go_wp2_with fail
  go_ret3
  exact ⟨rfl, below_drewN (Below.refl _ _) _⟩

set_option maxRecDepth 20000 in
set_option maxHeartbeats 16000000 in
theorem model_loop (G n s l K0 f : Nat) (zs : List Int) (w : World) (row : BRow w (some ⟨G, 0, none⟩) n zs) (hz : Bytes zs) (hs : 1 ≤ s) (hn : n ≤ 1048576) (hl : l = lenV zs 0 2) (hn2 : 2 + l ≤ n)
    (hoks : ∀ i, i < K0 → ItemOK zs s (2 + l) (posK zs i)) (hend : (posK zs K0 < 2 + l ∧ ItemBad zs s (2 + l) (posK zs K0) f) ∨ (posK zs K0 = 2 + l ∧ 2 + l < n ∧ f = 2 + l)) :
    Calls Tryf.prog 27 #[.slice (some ⟨G, 0, none⟩) n n, .int .i64 s, .slice none 0 0] w fun e w' => e = .returned (.tuple #[.bool true, .int .i64 f, .bool true]) ∧ Below w.heap.size w w' := by
  obtain ⟨z0, z1, b0, b1, g0, g1, hor⟩ := two_at row hz (o := 0) (by omega)
  rw [← hl] at hor
  have hnl := nil45
  have HR : Hid _ := row
  have HO : Hid _ := hoks
  obtain ⟨en, hen⟩ : ∃ en, en = 2 + l := ⟨_, rfl⟩
  have HEN : Hid _ := hen
  have hKn : K0 + 2 ≤ en := by have := posK_ge zs K0; rcases hend with ⟨h, _⟩ | ⟨h, _⟩ <;> omega
  have henn : en ≤ n := by omega
  have hnl2 : (2 : Int) + (l : Int) = (en : Int) := by omega
  have hlt2 : ¬ (n : Int) < 2 := by omega
  have hll : ¬ (n : Int) - 2 < (l : Int) := by omega
  rw [← hen] at hend
  have HE : Hid _ := hend
  clear hl row hn2 hoks hen hend
  go_enter Tryf.func27, Tryf.ntmps27
  go_wp2_with fail
  go_quiet (fail)
  clear hor b0 b1 g0 g1
  go_wp2_with fail
  go_loopg [11, 12, 13] (K0 + 2) (fun kx o i g wr => ∃ (k : Nat) (gd : Bool), k ≤ K0 ∧ K0 + 1 - k < kx ∧ o = .int .i64 (posK zs k : Nat) ∧ i = .int .i64 k ∧ g = .bool gd ∧ Below w.heap.size w wr)
  case atStart => exact ⟨0, true, Nat.zero_le _, by omega, rfl, rfl, rfl, below_drewN (Below.refl _ _) _⟩
  case round =>
    obtain ⟨k, gd, hkm, hgk, rfl, rfl, rfl, hB⟩ := hrel
    have row := BRow.below HR.out hB
    have hnext : posK zs (k + 1) = posK zs k + 14 + m16 zs (posK zs k) := rfl
    have hgeP := posK_ge zs k
    have hcase : (posK zs k + 14 + m16 zs (posK zs k) ≤ en ∧ ((k < K0 ∧ m16 zs (posK zs k) % s = 0) ∨ (m16 zs (posK zs k) % s ≠ 0 ∧ f = posK zs k + 14 + m16 zs (posK zs k) / s * s))) ∨
        (posK zs k < en ∧ en < posK zs k + 4 ∧ f = posK zs k) ∨ (posK zs k + 4 ≤ en ∧ en < posK zs k + 12 ∧ f = posK zs k + 4) ∨ (posK zs k + 12 ≤ en ∧ en < posK zs k + 14 ∧ f = posK zs k + 12) ∨
        (posK zs k + 14 ≤ en ∧ en < posK zs k + 14 + m16 zs (posK zs k) ∧ f = posK zs k + 12) ∨ (posK zs k = en ∧ en < n ∧ f = en) := by
      by_cases h : k < K0
      · have h1 : ItemOK zs s en (posK zs k) := by rw [HEN.out]; exact HO.out k h
        exact Or.inl ⟨h1.1, Or.inl ⟨h, h1.2⟩⟩
      · obtain rfl : k = K0 := by omega
        rcases HE.out with ⟨h1, h2 | h2 | h2 | h2 | h2⟩ | h1
        · exact Or.inr (Or.inl ⟨h1, h2⟩)
        · exact Or.inr (Or.inr (Or.inl h2))
        · exact Or.inr (Or.inr (Or.inr (Or.inl h2)))
        · exact Or.inr (Or.inr (Or.inr (Or.inr (Or.inl h2))))
        · exact Or.inl ⟨h2.1, Or.inr h2.2⟩
        · exact Or.inr (Or.inr (Or.inr (Or.inr (Or.inr h1))))
    unfold m16 at hcase hnext
    generalize hP : posK zs k = P at *
    have HP : Hid _ := hP
    have HB : Hid (Below w.heap.size w wr) := hB
    have HROW : Hid (BRow wr (some ⟨G, 0, none⟩) n zs) := row
    have HNX : Hid _ := hnext
    clear hP hB row hnext
    generalize hM : lenV zs (P + 12) 2 = M at *
    rcases hcase with ⟨hle, hin⟩ | ⟨hPe, hx, hfe⟩ | ⟨hPe, hx, hfe⟩ | ⟨hPe, hx, hfe⟩ | ⟨hPe, hx, hfe⟩ | ⟨hPe, hen2, hfe⟩
    · obtain ⟨z0, z1, b0, b1, g0, g1, hor⟩ := two_at HROW.out hz (o := P + 12) (by omega)
      rw [hM] at hor
      have c0 : (P : Int) < (en : Int) := by omega
      have c1 : ¬ (en : Int) - (P : Int) < 4 := by omega
      have c2 : ¬ (en : Int) - ((P : Int) + 4) < 8 := by omega
      have c3 : ¬ (en : Int) - ((P : Int) + 12) < 2 := by omega
      have c4 : ¬ (en : Int) - ((P : Int) + 14) < (M : Int) := by omega
      have i12 : (P : Int) + 12 < (n : Int) := by omega
      have i13 : (P : Int) + 13 < (n : Int) := by omega
      have ck0 : ¬ (k : Int) < 0 := by omega
      obtain ⟨v1, hv1⟩ : ∃ v, v = lenV zs P 4 := ⟨_, rfl⟩
      obtain ⟨v2, hv2⟩ : ∃ v, v = lenV zs (P + 4) 8 := ⟨_, rfl⟩
      have h32 := be32_row G P n n zs wr (by omega) (by omega) HROW.out hz
      have h64 := fun q => be64_any G (P + 4) n n zs (wr.drewN q) (by omega) (by omega) (BRow.drewN HROW.out q) hz
      rw [← hv1] at h32
      rw [← hv2] at h64
      have HIN : Hid _ := hin
      obtain ⟨C, hC⟩ : ∃ C, C = M / s := ⟨_, rfl⟩
      have hCd := Nat.div_add_mod M s
      have hCl := Nat.mod_lt M (show s > 0 by omega)
      rw [Nat.mul_comm, ← hC] at hCd
      have hCM : C ≤ M := by have := Nat.le_mul_of_pos_right C hs; omega
      obtain ⟨E, hEE⟩ : ∃ E, E = P + 14 + M := ⟨_, rfl⟩
      have hE : (P : Int) + 4 + 8 + 2 + (M : Int) = (E : Int) := by omega
      have HEE : Hid _ := hEE
      have hEn : E ≤ n := by omega
      have hQE : ∀ c, c < C → P + 14 + c * s + s ≤ E := fun c hc => by
        have hc1 : (c + 1) * s ≤ C * s := Nat.mul_le_mul_right s hc
        rw [Nat.add_mul, Nat.one_mul] at hc1
        omega
      have HQE : Hid _ := hQE
      have HC : Hid _ := hC
      have HCD : Hid _ := hCd
      have HCL : Hid _ := hCl
      clear hM hin hv1 hv2 hC hCd hCl hEE hQE
      have tt := fun q => kcell (K := wr.heap.size) (heap_alloc_new (wr.drewN q) (.cells #[.int .u32 0, .int .u64 0, .slice none 0 0] 64))
      have t0 := fun q => (tt q).1
      have t1 := fun q => (tt q).2.1
      have t2 := fun q => (tt q).2.2.1
      clear tt
      have hkey : ((0 : Int) != (v1 : Int)) = true ∨ ((0 : Int) != (v1 : Int)) = false ∧ ((0 : Int) != (v2 : Int)) = true ∨ ((0 : Int) != (v1 : Int)) = false ∧ ((0 : Int) != (v2 : Int)) = false := by
        by_cases h1 : v1 = 0 <;> by_cases h2 : v2 = 0 <;> simp [h1, h2] <;> omega
      go_wp2_with (first
        | (go_at_call 42; refine h32.mono ?_; rintro e w' ⟨rfl, q1, rfl⟩)
        | (go_at_call 43; refine (h64 _).mono ?_; rintro e w' ⟨rfl, rfl⟩))
      go_quiet (fail)
      clear hor g0 g1 b0 b1 h32 h64
      rcases hkey with hk1 | ⟨hk1, hk2⟩ | ⟨hk1, hk2⟩
      · go_wp2_with fail
        have u2 := t2 (q1 + nq)
        have bW : Below w.heap.size w ((wr.drewN (q1 + nq)).alloc (.cells #[.int .u32 0, .int .u64 0, .slice none 0 0] 64)) := (below_drewN HB.out (q1 + nq)).alloc HB.out.size _
        obtain ⟨W3, hW3⟩ : ∃ x, x = (wr.drewN (q1 + nq)).alloc (.cells #[.int .u32 0, .int .u64 0, .slice none 0 0] 64) := ⟨_, rfl⟩
        rw [← hW3] at u2 bW ⊢
        have HBW : Hid _ := bW
        clear hW3 t0 t1 t2 bW
        go_loopg [11, 13, 20] (C + 1) (fun kx o gd j wi => ∃ c Q : Nat, c ≤ C ∧ C - c < kx ∧ Q = P + 14 + c * s ∧ o = .int .i64 (Q : Nat) ∧ gd = .bool false ∧ j = .int .i64 c ∧ wi = W3)
        case atStart => exact ⟨0, P + 14, Nat.zero_le _, by omega, by omega, by rw [show (P : Int) + 4 + 8 + 2 = ((P + 14 : Nat) : Int) by omega], rfl, rfl, rfl⟩
        case round =>
          obtain ⟨c, Q, hcC, hgk2, hQ, rfl, rfl, rfl, rfl⟩ := hrel
          have HQ : Hid _ := hQ
          have dc : ¬ (c : Int) < 0 := by omega
          by_cases hcl : c < C
          · have hQs : Q + s ≤ E := by have := HQE.out c hcl; omega
            have d0 : (Q : Int) < (E : Int) := by omega
            have d1 : ¬ (E : Int) - (Q : Int) < (s : Int) := by omega
            clear hQ
            go_wp2_with fail
            go_roundg (C - c)
            case rel => exact ⟨c + 1, Q + s, by omega, by omega, by rw [HQ.out, Nat.add_mul, Nat.one_mul]; omega, by go_num, rfl, by go_num, rfl⟩
            case measure => omega
          · obtain rfl : c = C := by omega
            have e1 := HCD.out
            have e2 := HCL.out
            have e3 := HEE.out
            rcases HIN.out with ⟨hkK, hM0⟩ | ⟨hM0, hfe⟩
            · have hQE : Q = E := by omega
              subst hQE
              clear hQ e1 e2 e3 hM0
              have d0 : ¬ (Q : Int) < (Q : Int) := by omega
              by_cases hc0 : c = 0
              · have d2 : ((c : Int) != 0) = false := by simp [hc0]
                clear hc0
                go_wp2_with fail
                go_roundg (K0 + 1 - k)
                case rel => exact ⟨k + 1, false, by omega, by omega, by rw [HNX.out, ← HEE.out], by go_num, rfl, HBW.out⟩
                case measure => omega
              · have d2 : ((c : Int) != 0) = true := by simp [hc0]
                go_wp2_with fail
                go_roundg (K0 + 1 - k)
                case rel => exact ⟨k + 1, false, by omega, by omega, by rw [HNX.out, ← HEE.out], by go_num, rfl, HBW.out⟩
                case measure => omega
            · have d0 : (Q : Int) < (E : Int) := by omega
              have d1 : (E : Int) - (Q : Int) < (s : Int) := by omega
              have hfQ : f = Q := by rw [hfe, ← HC.out]; omega
              clear hQ e1 e2 e3 hM0 hfe
              subst hfQ
              go_wp2_with fail
              go_ret3
              exact ⟨rfl, HBW.out⟩
      · go_wp2_with fail
        have u2 := t2 (q1 + nq)
        have bW : Below w.heap.size w ((wr.drewN (q1 + nq)).alloc (.cells #[.int .u32 0, .int .u64 0, .slice none 0 0] 64)) := (below_drewN HB.out (q1 + nq)).alloc HB.out.size _
        obtain ⟨W3, hW3⟩ : ∃ x, x = (wr.drewN (q1 + nq)).alloc (.cells #[.int .u32 0, .int .u64 0, .slice none 0 0] 64) := ⟨_, rfl⟩
        rw [← hW3] at u2 bW ⊢
        have HBW : Hid _ := bW
        clear hW3 t0 t1 t2 bW
        go_loopg [11, 13, 20] (C + 1) (fun kx o gd j wi => ∃ c Q : Nat, c ≤ C ∧ C - c < kx ∧ Q = P + 14 + c * s ∧ o = .int .i64 (Q : Nat) ∧ gd = .bool false ∧ j = .int .i64 c ∧ wi = W3)
        case atStart => exact ⟨0, P + 14, Nat.zero_le _, by omega, by omega, by rw [show (P : Int) + 4 + 8 + 2 = ((P + 14 : Nat) : Int) by omega], rfl, rfl, rfl⟩
        case round =>
          obtain ⟨c, Q, hcC, hgk2, hQ, rfl, rfl, rfl, rfl⟩ := hrel
          have HQ : Hid _ := hQ
          have dc : ¬ (c : Int) < 0 := by omega
          by_cases hcl : c < C
          · have hQs : Q + s ≤ E := by have := HQE.out c hcl; omega
            have d0 : (Q : Int) < (E : Int) := by omega
            have d1 : ¬ (E : Int) - (Q : Int) < (s : Int) := by omega
            clear hQ
            go_wp2_with fail
            go_roundg (C - c)
            case rel => exact ⟨c + 1, Q + s, by omega, by omega, by rw [HQ.out, Nat.add_mul, Nat.one_mul]; omega, by go_num, rfl, by go_num, rfl⟩
            case measure => omega
          · obtain rfl : c = C := by omega
            have e1 := HCD.out
            have e2 := HCL.out
            have e3 := HEE.out
            rcases HIN.out with ⟨hkK, hM0⟩ | ⟨hM0, hfe⟩
            · have hQE : Q = E := by omega
              subst hQE
              clear hQ e1 e2 e3 hM0
              have d0 : ¬ (Q : Int) < (Q : Int) := by omega
              by_cases hc0 : c = 0
              · have d2 : ((c : Int) != 0) = false := by simp [hc0]
                clear hc0
                go_wp2_with fail
                go_roundg (K0 + 1 - k)
                case rel => exact ⟨k + 1, false, by omega, by omega, by rw [HNX.out, ← HEE.out], by go_num, rfl, HBW.out⟩
                case measure => omega
              · have d2 : ((c : Int) != 0) = true := by simp [hc0]
                go_wp2_with fail
                go_roundg (K0 + 1 - k)
                case rel => exact ⟨k + 1, false, by omega, by omega, by rw [HNX.out, ← HEE.out], by go_num, rfl, HBW.out⟩
                case measure => omega
            · have d0 : (Q : Int) < (E : Int) := by omega
              have d1 : (E : Int) - (Q : Int) < (s : Int) := by omega
              have hfQ : f = Q := by rw [hfe, ← HC.out]; omega
              clear hQ e1 e2 e3 hM0 hfe
              subst hfQ
              go_wp2_with fail
              go_ret3
              exact ⟨rfl, HBW.out⟩
      · go_wp2_with fail
        have u2 := t2 (q1 + nq)
        have bW : Below w.heap.size w ((wr.drewN (q1 + nq)).alloc (.cells #[.int .u32 0, .int .u64 0, .slice none 0 0] 64)) := (below_drewN HB.out (q1 + nq)).alloc HB.out.size _
        obtain ⟨W3, hW3⟩ : ∃ x, x = (wr.drewN (q1 + nq)).alloc (.cells #[.int .u32 0, .int .u64 0, .slice none 0 0] 64) := ⟨_, rfl⟩
        rw [← hW3] at u2 bW ⊢
        have HBW : Hid _ := bW
        clear hW3 t0 t1 t2 bW
        go_loopg [11, 13, 20] (C + 1) (fun kx o gd j wi => ∃ c Q : Nat, c ≤ C ∧ C - c < kx ∧ Q = P + 14 + c * s ∧ o = .int .i64 (Q : Nat) ∧ gd = .bool false ∧ j = .int .i64 c ∧ wi = W3)
        case atStart => exact ⟨0, P + 14, Nat.zero_le _, by omega, by omega, by rw [show (P : Int) + 4 + 8 + 2 = ((P + 14 : Nat) : Int) by omega], rfl, rfl, rfl⟩
        case round =>
          obtain ⟨c, Q, hcC, hgk2, hQ, rfl, rfl, rfl, rfl⟩ := hrel
          have HQ : Hid _ := hQ
          have dc : ¬ (c : Int) < 0 := by omega
          by_cases hcl : c < C
          · have hQs : Q + s ≤ E := by have := HQE.out c hcl; omega
            have d0 : (Q : Int) < (E : Int) := by omega
            have d1 : ¬ (E : Int) - (Q : Int) < (s : Int) := by omega
            clear hQ
            go_wp2_with fail
            go_roundg (C - c)
            case rel => exact ⟨c + 1, Q + s, by omega, by omega, by rw [HQ.out, Nat.add_mul, Nat.one_mul]; omega, by go_num, rfl, by go_num, rfl⟩
            case measure => omega
          · obtain rfl : c = C := by omega
            have e1 := HCD.out
            have e2 := HCL.out
            have e3 := HEE.out
            rcases HIN.out with ⟨hkK, hM0⟩ | ⟨hM0, hfe⟩
            · have hQE : Q = E := by omega
              subst hQE
              clear hQ e1 e2 e3 hM0
              have d0 : ¬ (Q : Int) < (Q : Int) := by omega
              by_cases hc0 : c = 0
              · have d2 : ((c : Int) != 0) = false := by simp [hc0]
                clear hc0
                go_wp2_with fail
                go_roundg (K0 + 1 - k)
                case rel => exact ⟨k + 1, false, by omega, by omega, by rw [HNX.out, ← HEE.out], by go_num, rfl, HBW.out⟩
                case measure => omega
              · have d2 : ((c : Int) != 0) = true := by simp [hc0]
                go_wp2_with fail
                go_roundg (K0 + 1 - k)
                case rel => exact ⟨k + 1, false, by omega, by omega, by rw [HNX.out, ← HEE.out], by go_num, rfl, HBW.out⟩
                case measure => omega
            · have d0 : (Q : Int) < (E : Int) := by omega
              have d1 : (E : Int) - (Q : Int) < (s : Int) := by omega
              have hfQ : f = Q := by rw [hfe, ← HC.out]; omega
              clear hQ e1 e2 e3 hM0 hfe
              subst hfQ
              go_wp2_with fail
              go_ret3
              exact ⟨rfl, HBW.out⟩
    · subst hfe
      have c0 : (f : Int) < (en : Int) := by omega
      have c1 : (en : Int) - (f : Int) < 4 := by omega
      clear hM
      go_wp2_with fail
      go_ret3
      exact ⟨rfl, HB.out⟩
    · have c0 : (P : Int) < (en : Int) := by omega
      have c1 : ¬ (en : Int) - (P : Int) < 4 := by omega
      have c2 : (en : Int) - ((P : Int) + 4) < 8 := by omega
      have HF : Hid _ := hfe
      clear hM hfe
      go_wp2_with (go_at_call 42; refine (be32_row G P n n zs _ (by omega) (by omega) HROW.out hz).mono ?_; rintro e w' ⟨rfl, q1, rfl⟩)
      go_ret3
      exact ⟨by rw [HF.out, show (P : Int) + 4 = ((P + 4 : Nat) : Int) by omega]; rfl, below_drewN HB.out _⟩
    · have c0 : (P : Int) < (en : Int) := by omega
      have c1 : ¬ (en : Int) - (P : Int) < 4 := by omega
      have c2 : ¬ (en : Int) - ((P : Int) + 4) < 8 := by omega
      have c3 : (en : Int) - ((P : Int) + 12) < 2 := by omega
      have HF : Hid _ := hfe
      clear hM hfe
      go_wp2_with (first
        | (go_at_call 42; refine (be32_row G P n n zs _ (by omega) (by omega) HROW.out hz).mono ?_; rintro e w' ⟨rfl, q1, rfl⟩)
        | (go_at_call 43; refine (be64_any G (P + 4) n n zs _ (by omega) (by omega) (BRow.drewN HROW.out _) hz).mono ?_; rintro e w' ⟨rfl, rfl⟩))
      go_ret3
      exact ⟨by rw [HF.out, show (P : Int) + 4 + 8 = ((P + 12 : Nat) : Int) by omega]; rfl, below_drewN HB.out _⟩
    · obtain ⟨z0, z1, b0, b1, g0, g1, hor⟩ := two_at HROW.out hz (o := P + 12) (by omega)
      rw [hM] at hor
      have c0 : (P : Int) < (en : Int) := by omega
      have c1 : ¬ (en : Int) - (P : Int) < 4 := by omega
      have c2 : ¬ (en : Int) - ((P : Int) + 4) < 8 := by omega
      have c3 : ¬ (en : Int) - ((P : Int) + 12) < 2 := by omega
      have c4 : (en : Int) - ((P : Int) + 14) < (M : Int) := by omega
      have i12 : (P : Int) + 12 < (n : Int) := by omega
      have i13 : (P : Int) + 13 < (n : Int) := by omega
      have HF : Hid _ := hfe
      clear hM hfe
      go_wp2_with (first
        | (go_at_call 42; refine (be32_row G P n n zs _ (by omega) (by omega) HROW.out hz).mono ?_; rintro e w' ⟨rfl, q1, rfl⟩)
        | (go_at_call 43; refine (be64_any G (P + 4) n n zs _ (by omega) (by omega) (BRow.drewN HROW.out _) hz).mono ?_; rintro e w' ⟨rfl, rfl⟩))
      go_quiet (fail)
      clear hor g0 g1 b0 b1
      go_wp2_with fail
      go_ret3
      exact ⟨by rw [HF.out, show (P : Int) + 4 + 8 = ((P + 12 : Nat) : Int) by omega]; rfl, below_drewN HB.out _⟩
    · subst hPe
      subst hfe
      have c0 : ¬ (f : Int) < (f : Int) := by omega
      have c1 : ((f : Int) != (n : Int)) = true := by simp; omega
      have c2 : ¬ f = n := by omega
      go_wp2_with fail
      go_ret3
      exact ⟨rfl, HB.out⟩
end Go.Proofs.Qxb6604610aFmt
