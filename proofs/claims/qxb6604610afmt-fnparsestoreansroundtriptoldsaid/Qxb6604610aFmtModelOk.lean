/-
  storeAnsModel (27) where the answer was taken.
-/
import Derived.Test.Qxb6604610aFmtFacts
namespace Go.Proofs.Qxb6604610aFmt
open Go.RowKit Go.Extern.Stop Go.Stop Go.Extern

/-- The three stores of a kind response. -/
theorem store3 (W : World) (K : Nat) (a b c x y z : Value) (h : W.heap[K]? = some (.cells #[a, b, c] 64 (0, 0))) :
    (W.cell? ⟨K, 0, none⟩ = some a ∧ W.frozen? ⟨K, 0, none⟩ = false) ∧ ((W.setCell ⟨K, 0, none⟩ x).cell? ⟨K, 1, none⟩ = some b ∧ (W.setCell ⟨K, 0, none⟩ x).frozen? ⟨K, 1, none⟩ = false) ∧
    (((W.setCell ⟨K, 0, none⟩ x).setCell ⟨K, 1, none⟩ y).cell? ⟨K, 2, none⟩ = some c ∧ ((W.setCell ⟨K, 0, none⟩ x).setCell ⟨K, 1, none⟩ y).frozen? ⟨K, 2, none⟩ = false) ∧
    (((W.setCell ⟨K, 0, none⟩ x).setCell ⟨K, 1, none⟩ y).setCell ⟨K, 2, none⟩ z).heap[K]? = some (.cells #[x, y, z] 64 (0, 0)) := by
  have h1 : (W.setCell ⟨K, 0, none⟩ x).heap[K]? = some (.cells #[x, b, c] 64 (0, 0)) := heap_setCell_same W K 0 _ 64 _ h
  have h2 : ((W.setCell ⟨K, 0, none⟩ x).setCell ⟨K, 1, none⟩ y).heap[K]? = some (.cells #[x, y, c] 64 (0, 0)) := heap_setCell_same _ K 1 _ 64 _ h1
  exact ⟨⟨(kcell h).1, (kcell h).2.2.2.1 0⟩, ⟨(kcell h1).2.1, (kcell h1).2.2.2.1 1⟩, ⟨(kcell h2).2.2.1, (kcell h2).2.2.2.1 2⟩, heap_setCell_same _ K 2 _ 64 _ h2⟩

theorem below_of {w wr w3 : World} (h : Frame (fun i => i = wr.heap.size) wr w3) (hs : w.heap.size ≤ wr.heap.size) : Below w.heap.size wr w3 := ⟨h.os, h.tape, h.output, h.size, fun k hk => h.block k (by omega) (by show ¬ k = wr.heap.size; omega)⟩
theorem frame3 (wr : World) (m K : Nat) (o : Obj) (x y z : Value) : Frame (fun i => i = K) wr (((((wr.drewN m).alloc o).setCell ⟨K, 0, none⟩ x).setCell ⟨K, 1, none⟩ y).setCell ⟨K, 2, none⟩ z) := by
  have h0 : Frame (fun i => i = K) wr ((wr.drewN m).alloc o) := ((Frame.refl _ wr).drewN m).alloc o
  have h1 : Frame (fun i => i = K) wr (((wr.drewN m).alloc o).setCell ⟨K, 0, none⟩ x) := Frame.setCell (S := fun i => i = K) (g := K) h0 (Or.inl rfl) 0 x
  have h2 : Frame (fun i => i = K) wr ((((wr.drewN m).alloc o).setCell ⟨K, 0, none⟩ x).setCell ⟨K, 1, none⟩ y) := Frame.setCell (S := fun i => i = K) (g := K) h1 (Or.inl rfl) 1 y
  exact Frame.setCell (S := fun i => i = K) (g := K) h2 (Or.inl rfl) 2 z

set_option maxRecDepth 20000 in
set_option maxHeartbeats 8000000 in
theorem model_ok (G n s m base kc l : Nat) (ka : Option Addr) (zs : List Int) (w : World) (rvs : Nat → Value) (row : BRow w (some ⟨G, 0, none⟩) n zs) (hz : Bytes zs) (hs : 1 ≤ s) (hn : n ≤ 1048576) (hl : l = lenV zs 0 2) (hn2 : n = 2 + l)
    (hW : Whole G s n zs base w (.slice ka m kc) m rvs) :
    Calls Tryf.prog 27 #[.slice (some ⟨G, 0, none⟩) n n, .int .i64 s, .slice ka m kc] w fun e w' => e = .returned (.tuple #[.bool false, .int .i64 (-1), .bool true]) ∧ Below w.heap.size w w' := by
  obtain ⟨z0, z1, b0, b1, g0, g1, hor⟩ := two_at row hz (o := 0) (by omega)
  rw [← hl] at hor
  have HW : Hid _ := hW
  have HR : Hid _ := row
  have HN : Hid (n = 2 + l) := hn2
  have hm : m ≤ n := by have := posK_ge zs m; have := hW.at'; omega
  have hnl : (2 : Int) + (l : Int) = (n : Int) := by omega
  have hlt2 : ¬ (n : Int) < 2 := by omega
  have hll : ¬ (n : Int) - 2 < (l : Int) := by omega
  clear hl hW row hn2
  go_enter Tryf.func27, Tryf.ntmps27
  go_wp2_with fail
  go_quiet (fail)
  clear hor b0 b1 g0 g1
  go_wp2_with fail
  go_loopg [11, 12, 13] (n + 2) (fun kx o i g wr => ∃ k : Nat, k ≤ m ∧ n + 1 - k < kx ∧ o = .int .i64 (posK zs k : Nat) ∧ i = .int .i64 k ∧ g = .bool true ∧ Below w.heap.size w wr)
  case atStart => exact ⟨0, Nat.zero_le _, by omega, rfl, rfl, rfl, below_drewN (Below.refl _ _) _⟩
  case round =>
    obtain ⟨k, hkm, hgk, rfl, rfl, rfl, hB⟩ := hrel
    have hW : Whole G s n zs base wr (.slice ka m kc) m rvs := HW.out.frame (Frame.of_below (S := fun _ => False) hB) (fun _ _ => id)
    have row := BRow.below HR.out hB
    have hlast := hW.at'
    by_cases hlt : k < m
    · obtain ⟨g, rfl, k0, k1, k2⟩ := hW.item hlt
      obtain ⟨ra, rc, hrv, hrep⟩ := hW.rep hlt
      rw [hrv] at k2
      have hok := hW.ok k hlt
      have hnext : posK zs (k + 1) = posK zs k + 14 + m16 zs (posK zs k) := rfl
      have hgeP := posK_ge zs k
      unfold cntK at k2 hrep
      unfold m16 at hnext hok k2 hrep
      generalize hP : posK zs k = P at *
      generalize hM : lenV zs (P + 12) 2 = M at *
      obtain ⟨z0, z1, b0, b1, g0, g1, hor⟩ := two_at row hz (o := P + 12) (by have := hok.1; simp only [m16] at this; omega)
      rw [hM] at hor
      obtain ⟨ok1, ok2⟩ := hok
      unfold m16 at ok1 ok2
      rw [hM] at ok1 ok2
      have c0 : (P : Int) < (n : Int) := by omega
      have c1 : ¬ (n : Int) - (P : Int) < 4 := by omega
      have c2 : ¬ (n : Int) - ((P : Int) + 4) < 8 := by omega
      have c3 : ¬ (n : Int) - ((P : Int) + 12) < 2 := by omega
      have c4 : ¬ (n : Int) - ((P : Int) + 14) < (M : Int) := by omega
      have i12 : (P : Int) + 12 < (n : Int) := by omega
      have i13 : (P : Int) + 13 < (n : Int) := by omega
      have ckm : (k : Int) < (m : Int) := by omega
      have HB : Hid (Below w.heap.size w wr) := hB
      have HROW : Hid _ := row
      have HREP : Hid _ := hrep
      have HNX : Hid _ := hnext
      have HMS : Hid _ := ok2
      clear hB hW hrep hnext hrv ok2 row hM hP
      go_wp2_with (first
        | (go_at_call 42; refine (be32_row G P n n zs _ (by omega) (by omega) (BRow.drewN HROW.out _) hz).mono ?_; rintro e w' ⟨rfl, q1, rfl⟩)
        | (go_at_call 42; refine (be32_row G P n n zs _ (by omega) (by omega) HROW.out hz).mono ?_; rintro e w' ⟨rfl, q1, rfl⟩)
        | (go_at_call 43; refine (be64_any G (P + 4) n n zs _ (by omega) (by omega) (BRow.drewN HROW.out _) hz).mono ?_; rintro e w' ⟨rfl, rfl⟩))
      go_quiet (fail)
      clear hor g0 g1 b0 b1
      have far : ∀ (q j : Nat) (v : Value), wr.cell? ⟨g, j, none⟩ = some v → ((wr.drewN q).alloc (.cells #[.int .u32 0, .int .u64 0, .slice none 0 0] 64)).cell? ⟨g, j, none⟩ = some v := fun q j v h => Frame.cell (S := fun _ => False) (((Frame.refl _ wr).drewN q).alloc _) h id
      have k0' := fun q => far q _ _ k0
      have k1' := fun q => far q _ _ k1
      have k2' := fun q => far q _ _ k2
      clear far k0 k1 k2
      have st := fun q => store3 ((wr.drewN q).alloc (.cells #[.int .u32 0, .int .u64 0, .slice none 0 0] 64)) wr.heap.size _ _ _ (.int .u32 (lenV zs P 4 : Nat)) (.int .u64 (lenV zs (P + 4) 8 : Nat)) (.slice ra (M / s) rc) (heap_alloc_new (wr.drewN q) _)
      have s0 := fun q => (st q).1
      have s1 := fun q => (st q).2.1
      have s2 := fun q => (st q).2.2.1
      have H3 : Hid (∀ q, _) := fun q => (st q).2.2.2
      have s3 := fun q => (kcell (st q).2.2.2).1
      have s4 := fun q => (kcell (st q).2.2.2).2.1
      have s5 := fun q => (kcell (st q).2.2.2).2.2.1
      clear st
      go_wp2_with fail
      obtain ⟨W3, hW3⟩ : ∃ x, x = (((((wr.drewN (q1 + nq)).alloc (.cells #[.int .u32 0, .int .u64 0, .slice none 0 0] 64)).setCell ⟨wr.heap.size, 0, none⟩ (.int .u32 (lenV zs P 4 : Nat))).setCell ⟨wr.heap.size, 1, none⟩ (.int .u64 (lenV zs (P + 4) 8 : Nat))).setCell ⟨wr.heap.size, 2, none⟩ (.slice ra (M / s) rc)) := ⟨_, rfl⟩
      have t5 := s5 (q1 + nq)
      rw [← hW3] at t5 ⊢
      have F3 : Frame (fun i => i = wr.heap.size) wr W3 := by
        rw [hW3]
        exact frame3 wr _ _ _ _ _ _
      have HF3 : Hid _ := F3
      clear hW3 s0 s1 s2 s3 s4 s5 H3 k0' k1' k2' F3
      have hGlt : G < wr.heap.size := by
        obtain ⟨z, _, _, hc⟩ := byteAt HROW.out hz (i := 0) (by omega)
        exact World.block_lt_of_cell? _ _ hc
      obtain ⟨C, hC⟩ : ∃ C, C = M / s := ⟨_, rfl⟩
      have hCs : C * s = M := by
        have h1 := Nat.div_add_mod M s
        rw [HMS.out, Nat.mul_comm, ← hC] at h1
        omega
      have hCM : C ≤ M := by have := Nat.le_mul_of_pos_right C hs; omega
      have hE : (P : Int) + 4 + 8 + 2 + (M : Int) = ((P + 14 + M : Nat) : Int) := by omega
      obtain ⟨E, hEE⟩ : ∃ E, E = P + 14 + M := ⟨_, rfl⟩
      rw [← hEE] at hE
      have HREP2 : Hid (∀ i, i < C → ∃ g', ra = some ⟨g', 0, none⟩ ∧ g' < wr.heap.size ∧ W3.cell? ⟨g', i, none⟩ = some (.slice (some ⟨G, P + 14 + i * s, none⟩) s s)) := fun i hi => by
        obtain ⟨g', h1, h2⟩ := HREP.out i (hC ▸ hi)
        have h3 := World.block_lt_of_cell? _ _ h2
        exact ⟨g', h1, h3, HF3.out.cell h2 (by show g' ≠ wr.heap.size; exact Nat.ne_of_lt h3)⟩
      have ROW3 : Hid (BRow W3 (some ⟨G, 0, none⟩) n zs) := HF3.out.row HROW.out (by show G ≠ wr.heap.size; omega)
      rw [← hC] at t5
      have hpp := ptr_self
      rw [hE]
      have HEE : Hid _ := hEE
      have hEn : E ≤ n := by omega
      have hQE : ∀ c, c < C → P + 14 + c * s + s ≤ E := fun c hc => by
        have hc1 : (c + 1) * s ≤ C * s := Nat.mul_le_mul_right s hc
        rw [Nat.add_mul, Nat.one_mul] at hc1
        omega
      have HQE : Hid _ := hQE
      clear hE HREP hC hEE hQE
      go_loopg [11, 13, 20] (C + 1) (fun kx o gd j wi => ∃ c Q : Nat, c ≤ C ∧ C - c < kx ∧ Q = P + 14 + c * s ∧ o = .int .i64 (Q : Nat) ∧ gd = .bool true ∧ j = .int .i64 c ∧ ∃ q, wi = W3.drewN q)
      case atStart => exact ⟨0, P + 14, Nat.zero_le _, by omega, by omega, by rw [show (P : Int) + 4 + 8 + 2 = ((P + 14 : Nat) : Int) by omega], rfl, rfl, 0, rfl⟩
      case round =>
        obtain ⟨c, Q, hcC, hgk2, hQ, rfl, rfl, rfl, q, rfl⟩ := hrel
        by_cases hcl : c < C
        · obtain ⟨g', rfl, hg', hcell⟩ := HREP2.out c hcl
          rw [← hQ] at hcell
          have hQs : Q + s ≤ E := by have := HQE.out c hcl; omega
          have d0 : (Q : Int) < (E : Int) := by omega
          have d1 : ¬ (E : Int) - (Q : Int) < (s : Int) := by omega
          have d2 : (c : Int) < (C : Int) := by omega
          have d3 : (Q : Int) < (n : Int) := by omega
          have d4 : (Q : Int) + (s : Int) ≤ (n : Int) := by omega
          have d5 : (0 : Int) < (s : Int) := by omega
          have d6 : ¬ s = 0 := by omega
          have d11 : ¬ n = Q := by omega
          have d9 : (Q : Int) ≤ (Q : Int) + (s : Int) := by omega
          have d10 : ((Q : Int) + (s : Int)).toNat = Q + s := by omega
          have d12 : IntKind.i64.wrap ((Q : Int) + (s : Int)) = (Q : Int) + (s : Int) := wrap_small _ (by omega) (by omega)
          have HQ : Hid _ := hQ
          clear hQ
          go_wp2_with fail
          have hEQ := fun (x : World) (cp : Nat) (hx : BRow x (some ⟨G, 0, none⟩) n zs) => eq_true (some ⟨G, Q, none⟩) (some ⟨G, Q, none⟩) s s cp (zs.drop Q) (zs.drop Q) x (by omega) (cutA_pos G Q s hs ▸ hx.cut (by omega)) (cutA_pos G Q s hs ▸ hx.cut (by omega)) (fun _ _ => rfl)
          have hEQ2 : ∀ x cp : Nat, Calls Tryf.prog 17 #[.slice (some ⟨G, Q, none⟩) s s, .slice (some ⟨G, Q, none⟩) s cp] (W3.drewN (q + x)) fun e w'' => e = .returned (.bool true) ∧ ∃ n, w'' = W3.drewN (q + n) := fun x cp => by
            refine (hEQ (W3.drewN (q + x)) cp ROW3.out).mono ?_
            rintro e w' ⟨rfl, q5, rfl⟩
            exact ⟨rfl, x + q5, by simp [Nat.add_assoc]⟩
          clear hEQ
          go_quiet (exact hEQ2 _ _)
          go_wp2_with fail
          go_roundg (C - c)
          case rel => exact ⟨c + 1, Q + s, by omega, by omega, by rw [HQ.out, Nat.add_mul, Nat.one_mul]; omega, by go_num, rfl, by go_num, _, rfl⟩
          case measure => omega
        · obtain rfl : c = C := by omega
          have hQE : Q = E := by have := HEE.out; omega
          subst hQE
          have HQ : Hid _ := hQ
          clear hQ
          go_wp2_with fail
          go_roundg (n + 1 - k)
          case rel => exact ⟨k + 1, by omega, by omega, by rw [HNX.out, ← HEE.out], by go_num, rfl, below_drewN (HB.out.trans (below_of HF3.out HB.out.size)) _⟩
          case measure => omega
    · obtain rfl : k = m := by omega
      rw [hlast]
      clear hW row hlast
      go_wp2_with fail
      go_ret3
      exact ⟨rfl, hB⟩
end Go.Proofs.Qxb6604610aFmt
