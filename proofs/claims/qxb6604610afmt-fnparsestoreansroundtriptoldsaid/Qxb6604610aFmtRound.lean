/-
  The walk of FnOpaque8RoundTrip (4).
-/
import Derived.Test.Qxb6604610aFmtOpaque
namespace Go.Proofs.Qxb6604610aFmt
open Go.RowKit Go.Extern.Stop Go.Stop Go.Extern

theorem clone_any (a : Option Addr) (n c : Nat) (zs : List Int) (w : World) (hn : n ≤ 2097152) (r : BRow w a n zs) (h0 : a = none → n = 0) :
    Calls Tryf.prog 9 #[.slice a n c] w fun e w' => ∃ a' c', e = .returned (.slice a' n c') ∧ BRow w' a' n zs ∧ Below w.heap.size w w' := by
  cases a with
  | none =>
    obtain rfl := h0 rfl
    refine (clone_none 0 c w).mono ?_
    rintro e w' ⟨rfl, rfl⟩
    exact ⟨none, 0, rfl, r, Below.refl _ _⟩
  | some x =>
    refine (clone_some x n c zs w hn r).mono ?_
    rintro e w' ⟨rfl, hr, _, hb⟩
    exact ⟨_, n, rfl, hr, hb⟩

set_option maxHeartbeats 1000000 in
theorem bytes18 (a0 a1 : Option Addr) (n0 c0 n1 c1 : Nat) (w : World) (h0 : n0 ≤ maxLen) (h1 : n1 ≤ maxLen) :
    Calls Tryf.prog 18 #[.slice a0 n0 c0, .slice a1 n1 c1] w fun e w' => ∃ r, e = .returned (.bool r) ∧ (n0 ≤ 255 → n1 ≤ 524288 → r = true) ∧ w = w' := by
  unfold maxLen at h0 h1
  go_enter Tryf.func18, Tryf.ntmps18
  go_wp2
  all_goals go_ret
  all_goals exact ⟨_, rfl, fun _ _ => by first | rfl | omega, rfl⟩

set_option maxHeartbeats 1000000 in
theorem round_out (a0 a1 : Option Addr) (n0 c0 n1 c1 : Nat) (w : World) (h0 : n0 ≤ maxLen) (h1 : n1 ≤ maxLen) (h : ¬ (n0 ≤ 255 ∧ n1 ≤ 524288)) :
    Calls Tryf.prog 4 #[.slice a0 n0 c0, .slice a1 n1 c1] w fun e w' => e = .returned (.bool true) ∧ Below w.heap.size w w' := by
  have hB := bytes18 a0 a1 n0 c0 n1 c1 w h0 h1
  unfold maxLen at h0 h1
  go_enter Tryf.func4, Tryf.ntmps4
  go_wp2_with fail
  refine hB.mono ?_
  rintro e w' ⟨r, rfl, _, rfl⟩
  cases r
  · go_wp2
    go_ret
    exact ⟨rfl, Below.refl _ _⟩
  · by_cases hn0 : n0 ≤ 255
    · have hn1 : ¬ n1 ≤ 524288 := fun x => h ⟨hn0, x⟩
      go_wp2
      go_ret
      exact ⟨rfl, Below.refl _ _⟩
    · go_wp2
      go_ret
      exact ⟨rfl, Below.refl _ _⟩

/-- The bytes that the law lays: a length, q, t. -/
def encL (n0 n1 : Nat) (zq zt : List Int) : List Int := (n0 : Int) :: (zq.take n0 ++ zt.take n1)
theorem encL_length (n0 n1 : Nat) (zq zt : List Int) (h0 : n0 ≤ zq.length) (h1 : n1 ≤ zt.length) : (encL n0 n1 zq zt).length = 1 + n0 + n1 := by
  simp [encL]; omega
theorem encL_zero (n0 n1 : Nat) (zq zt : List Int) : (encL n0 n1 zq zt).getD 0 0 = n0 := rfl
theorem encL_q (n0 n1 : Nat) (zq zt : List Int) (h0 : n0 ≤ zq.length) (i : Nat) (hi : i < n0) : (encL n0 n1 zq zt).getD (1 + i) 0 = zq.getD i 0 := by
  simp only [encL, List.getD_eq_getElem?_getD, Nat.add_comm 1 i, List.getElem?_cons_succ]
  rw [List.getElem?_append_left (by simp; omega), List.getElem?_take, if_pos hi]
theorem encL_t (n0 n1 : Nat) (zq zt : List Int) (h0 : n0 ≤ zq.length) (i : Nat) (hi : i < n1) : (encL n0 n1 zq zt).getD (1 + n0 + i) 0 = zt.getD i 0 := by
  simp only [encL, List.getD_eq_getElem?_getD, show 1 + n0 + i = (n0 + i) + 1 by omega, List.getElem?_cons_succ]
  rw [List.getElem?_append_right (by simp; omega)]
  simp only [List.length_take, Nat.min_eq_left h0, Nat.add_sub_cancel_left, List.getElem?_take, if_pos hi]
theorem encL_bytes (n0 n1 : Nat) (zq zt : List Int) (hn : n0 ≤ 255) (hq : Bytes zq) (ht : Bytes zt) (h0 : n0 ≤ zq.length) : Bytes (encL n0 n1 zq zt) := by
  intro i
  rcases Nat.eq_zero_or_pos i with rfl | hi
  · rw [encL_zero]; omega
  · rcases Nat.lt_or_ge i (1 + n0) with h | h
    · have := encL_q n0 n1 zq zt h0 (i - 1) (by omega)
      rw [show 1 + (i - 1) = i by omega] at this
      rw [this]; exact hq _
    · rcases Nat.lt_or_ge i (1 + n0 + n1) with h' | h'
      · have := encL_t n0 n1 zq zt h0 (i - 1 - n0) (by omega)
        rw [show 1 + n0 + (i - 1 - n0) = i by omega] at this
        rw [this]; exact ht _
      · rw [List.getD_eq_getElem?_getD, List.getElem?_eq_none (by simp [encL]; omega)]; simp

theorem BRow.cut {w : World} {b off n N : Nat} {zs : List Int} (h : BRow w (some ⟨b, 0, none⟩) N zs) (hn : off + n ≤ N) : BRow w (cutA b off n) n (zs.drop off) := by
  refine ⟨by have := h.1; simp; omega, fun h0 => ?_⟩
  obtain ⟨b', off', hx, hc⟩ := h.2 (by omega)
  obtain ⟨rfl, rfl⟩ : b = b' ∧ 0 = off' := by simpa using hx
  refine ⟨b, off, cutA_pos b off n h0, fun i hi => ?_⟩
  have := hc (off + i) (by omega)
  rw [Nat.zero_add] at this
  rw [this]
  simp [List.getD_eq_getElem?_getD]
theorem BRow.le {w : World} {a : Option Addr} {n m : Nat} {zs : List Int} (h : BRow w a n zs) (hm : m ≤ n) : BRow w a m zs :=
  ⟨by have := h.1; omega, fun h0 => by obtain ⟨b, off, ha, hc⟩ := h.2 (by omega); exact ⟨b, off, ha, fun i hi => hc i (by omega)⟩⟩

theorem BRow.lt {w : World} {a : Option Addr} {n : Nat} {zs : List Int} (h : BRow w a n zs) : ∀ x, a = some x → 0 < n → x.block < w.heap.size := by
  intro x hx hn
  obtain ⟨b, off, rfl, hc⟩ := h.2 hn
  cases hx
  exact World.block_lt_of_cell? _ _ (hc 0 hn)
theorem BRow.only' {w w' : World} {a : Option Addr} {n p : Nat} {zs : List Int} (h : BRow w a n zs) (hb : Only p w w') (hp : ∀ x, a = some x → 0 < n → x.block ≠ p) : BRow w' a n zs := by
  rcases Nat.eq_zero_or_pos n with rfl | hn
  · exact ⟨h.1, fun h => absurd h (Nat.lt_irrefl _)⟩
  · exact h.only hb (fun x hx => hp x hx hn)
theorem drop_getD (Z : List Int) (a i : Nat) : (Z.drop a).getD i 0 = Z.getD (a + i) 0 := by simp [List.getD_eq_getElem?_getD]
theorem cut_nil : ∀ (b off n m c : Nat) (w : World), (binOp .eql 22 (.slice (cutA b off n) m c) (.slice none 0 0)).run Tryf.prog w = .ok (.bool false) w := fun b off n m c w => by
  have := Lib.run_eql_slice_nil (P := Tryf.prog) w 22 5 (cutA b off n) m c 0 0 Tryf.underlying22
  simpa [cutA] using this
theorem cut_some : ∀ (b off n m c : Nat) (w : World), (binOp .neq 22 (.slice (cutA b off n) m c) (.slice none 0 0)).run Tryf.prog w = .ok (.bool true) w := fun b off n m c w => by
  have := run_neq_slice_nil_any (P := Tryf.prog) w 22 5 (cutA b off n) m c 0 0 Tryf.underlying22
  simpa [cutA] using this

set_option maxRecDepth 20000 in
set_option maxHeartbeats 2000000 in
theorem round_main (a0 a1 : Option Addr) (n0 c0 n1 c1 : Nat) (zq zt : List Int) (w : World) (h0 : n0 ≤ 255) (h1 : n1 ≤ 524288) (r0 : BRow w a0 n0 zq) (r1 : BRow w a1 n1 zt)
    (e0 : a0 = none → n0 = 0) (e1 : a1 = none → n1 = 0) (hq : Bytes zq) (ht : Bytes zt) :
    Calls Tryf.prog 4 #[.slice a0 n0 c0, .slice a1 n1 c1] w fun e w' => e = .returned (.bool true) ∧ Below w.heap.size w w' := by
  have hB := bytes18 a0 a1 n0 c0 n1 c1 w (by unfold maxLen; omega) (by unfold maxLen; omega)
  have hQ := clone_any a0 n0 c0 zq w (by omega) r0 e0
  obtain ⟨i0, hi, hz0, hz1, hz2⟩ := info_parts Tryf.info5
  have lq := r0.1
  have lt := r1.1
  go_enter Tryf.func4, Tryf.ntmps4
  go_wp2_with (go_at_call 18; refine hB.mono ?_; rintro e w' ⟨r, rfl, hr, rfl⟩; obtain rfl := hr h0 h1)
  refine hQ.mono ?_
  rintro e wA ⟨b0, d0, rfl, r0a, hbA⟩
  have hT := clone_any a1 n1 c1 zt wA (by omega) (r1.below hbA) e1
  clear hB hQ r0 r1
  go_wp2_with fail
  refine hT.mono ?_
  rintro e wB ⟨b1, d1, rfl, r1b, hbB⟩
  have r0b := r0a.below hbB
  have hbB' : Below w.heap.size w wB := hbA.trans (hbB.mono hbA.size)
  clear hT r0a hbA hbB
  go_wp2_with (at_make; refine wpList_make_full _ rfl _ _ 22 rfl wB.heap.size 5 i0 _ 1 Tryf.underlying22 hi hz0 hz1 .i64 .i64 _ _ (1 + n0 + n1) rfl rfl (by omega) (by omega) (by rw [hz2]; omega) (by unfold maxLen; omega) (Nat.le_refl _) ?_; intro w1 hown1 hg1; have F0 : Filled w1 wB.heap.size (1 + n0 + n1) 0 (encL n0 n1 zq zt) := Filled.start hown1; obtain ⟨v0, hv0⟩ := F0.cell (by omega); have fr0 := F0.free 0)
  have hb1 : Below wB.heap.size wB w1 := (Below.refl _ wB).grown hg1 (Nat.le_refl _) (fun k h => by cases h)
  have F1 : Filled (w1.setCell ⟨wB.heap.size, 0, none⟩ (.int .u8 n0)) wB.heap.size (1 + n0 + n1) 1 (encL n0 n1 zq zt) := F0.step (by omega)
  have hb2 : Below wB.heap.size wB (w1.setCell ⟨wB.heap.size, 0, none⟩ (.int .u8 n0)) := hb1.setCell (Nat.le_refl _) _
  have lZ := encL_length n0 n1 zq zt lq lt
  have yq := encL_q n0 n1 zq zt lq
  have yt := encL_t n0 n1 zq zt lq
  have HY : Hid ((∀ i, i < n0 → (encL n0 n1 zq zt).getD (1 + i) 0 = zq.getD i 0) ∧ (∀ i, i < n1 → (encL n0 n1 zq zt).getD (1 + n0 + i) 0 = zt.getD i 0) ∧ (encL n0 n1 zq zt).length = 1 + n0 + n1 ∧ (encL n0 n1 zq zt).getD 0 0 = n0 ∧ Bytes (encL n0 n1 zq zt)) :=
    (⟨yq, yt, lZ, rfl, encL_bytes n0 n1 zq zt h0 hq ht lq⟩ : (∀ i, i < n0 → (encL n0 n1 zq zt).getD (1 + i) 0 = zq.getD i 0) ∧ (∀ i, i < n1 → (encL n0 n1 zq zt).getD (1 + n0 + i) 0 = zt.getD i 0) ∧ (encL n0 n1 zq zt).length = 1 + n0 + n1 ∧ (encL n0 n1 zq zt).getD 0 0 = n0 ∧ Bytes (encL n0 n1 zq zt))
  generalize encL n0 n1 zq zt = Z at F1 HY
  clear yq yt lZ F0 hv0 fr0 hg1 hown1 hb1 hq ht
  obtain ⟨G, hG⟩ : ∃ G, G = wB.heap.size := ⟨_, rfl⟩
  rw [← hG] at F1 hb2 ⊢
  have HG : Hid (G = wB.heap.size) := hG
  clear hG
  generalize w1.setCell ⟨G, 0, none⟩ (.int .u8 n0) = w2 at F1 hb2 ⊢
  go_loopw [6] (fun i wr => ∃ k : Nat, k ≤ n0 ∧ i = .int .i64 k ∧ Filled wr G (1 + n0 + n1) (1 + k) Z ∧ Below G wB wr) (fun i _ => n0 + 1 - (intOf i).toNat)
  case atStart => exact ⟨0, Nat.zero_le _, rfl, F1, hb2⟩
  case round =>
    obtain ⟨k, hk, rfl, hf, hb⟩ := hrel
    clear F1 hb2
    by_cases hlt : k < n0
    · obtain ⟨b, off, rfl, hc⟩ := r0b.2 (by omega)
      have g := hc k hlt
      have hbl : b < G := by rw [HG.out]; exact World.block_lt_of_cell? _ _ g
      have g0 : wr.cell? ⟨b, off + k, none⟩ = some (.int .u8 (zq.getD k 0)) := (hb.cell (p := ⟨b, off + k, none⟩) hbl).trans g
      obtain ⟨v, hv⟩ := hf.cell (by omega)
      have hfr := hf.free (1 + k)
      have hst : Filled _ G (1 + n0 + n1) (1 + k + 1) Z := hf.step (by omega)
      have hbs : Below G wB (wr.setCell ⟨G, 1 + k, none⟩ (.int .u8 (Z.getD (1 + k) 0))) := hb.setCell (Nat.le_refl _) _
      rw [HY.out.1 k hlt] at hst hbs
      generalize zq.getD k 0 = z at g0 hst hbs
      have hi2 : (k : Int) < (n0 : Int) := by omega
      clear hc g hf hb
      go_wp2
      go_roundw
      case rel => exact ⟨k + 1, by omega, by go_num, hst, hbs⟩
      case measure => simp [intOf]; omega
    · obtain rfl : k = n0 := by omega
      go_wp2_with fail
      go_loopw [7] (fun i wr => ∃ j : Nat, j ≤ n1 ∧ i = .int .i64 j ∧ Filled wr G (1 + k + n1) (1 + k + j) Z ∧ Below G wB wr) (fun i _ => n1 + 1 - (intOf i).toNat)
      case atStart => exact ⟨0, Nat.zero_le _, rfl, hf, hb⟩
      case round =>
        obtain ⟨j, hj, rfl, hf2, hb2⟩ := hrel
        clear hf hb
        by_cases hjt : j < n1
        · obtain ⟨b, off, rfl, hc⟩ := r1b.2 (by omega)
          have g := hc j hjt
          have hbl : b < G := by rw [HG.out]; exact World.block_lt_of_cell? _ _ g
          rename World => wr2
          have g0 : wr2.cell? ⟨b, off + j, none⟩ = some (.int .u8 (zt.getD j 0)) := (hb2.cell (p := ⟨b, off + j, none⟩) hbl).trans g
          obtain ⟨v, hv⟩ := hf2.cell (by omega)
          have hfr := hf2.free (1 + k + j)
          have hst : Filled _ G (1 + k + n1) (1 + k + j + 1) Z := hf2.step (by omega)
          have hbs : Below G wB (wr2.setCell ⟨G, 1 + k + j, none⟩ (.int .u8 (Z.getD (1 + k + j) 0))) := hb2.setCell (Nat.le_refl _) _
          rw [HY.out.2.1 j hjt] at hst hbs
          generalize zt.getD j 0 = z at g0 hst hbs
          have hi2 : (j : Int) < (n1 : Int) := by omega
          clear hc g hf2 hb2
          go_wp2
          go_roundw
          case rel => exact ⟨j + 1, by omega, by go_num, hst, hbs⟩
          case measure => simp [intOf]; omega
        · obtain rfl : j = n1 := by omega
          rename World => wR
          obtain ⟨-, -, hZl, hZ0, hZB⟩ := HY.out
          have hrow := hf2.row (by omega)
          have hGl : G < wR.heap.size := by obtain ⟨cur, hg, _⟩ := hf2; exact (Array.getElem?_eq_some_iff.1 hg).1
          have hGB : G = wB.heap.size := HG.out
          have hbR : Below w.heap.size w wR := hbB'.trans (hb2.mono (by rw [hGB]; exact hbB'.size))
          have q0 : BRow wR b0 k zq := r0b.below (hGB ▸ hb2)
          have q1 : BRow wR b1 j zt := r1b.below (hGB ▸ hb2)
          have hN := newReader_any (some ⟨G, 0, none⟩) (1 + k + j) (1 + k + j) wR
          have HZ : Hid (Z.length = 1 + k + j ∧ Z.getD 0 0 = (k : Int) ∧ Bytes Z) := (⟨hZl, hZ0, hZB⟩ : Z.length = 1 + k + j ∧ Z.getD 0 0 = (k : Int) ∧ Bytes Z)
          clear hf2 hb2 hbB' r0b r1b hGB HG hZl hZ0 hZB
          go_wp2_with fail
          refine hN.mono ?_
          rintro e wC ⟨rfl, hrC, hbC⟩
          have rowC := hrow.below hbC
          have q0c := q0.below hbC
          have q1c := q1.below hbC
          have hbC' : Below w.heap.size w wC := hbR.trans (hbC.mono hbR.size)
          have hpw : w.heap.size ≤ wR.heap.size := hbR.size
          have hO := opaque_ok wR.heap.size 0 (1 + k + j) G (1 + k + j) (1 + k + j) Z wC hrC (by omega) rowC HZ.out.2.2 (Nat.le_refl _) (Nat.le_refl _) (by omega) k HZ.out.2.1 (by omega)
          have n0p : ∀ x, b0 = some x → 0 < k → x.block ≠ wR.heap.size := fun x hx hk => by have := q0.lt x hx hk; omega
          have n1p : ∀ x, b1 = some x → 0 < j → x.block ≠ wR.heap.size := fun x hx hk => by have := q1.lt x hx hk; omega
          have HN : Hid ((∀ x, b0 = some x → 0 < k → x.block ≠ wR.heap.size) ∧ (∀ x, b1 = some x → 0 < j → x.block ≠ wR.heap.size)) := (⟨n0p, n1p⟩ : (∀ x, b0 = some x → 0 < k → x.block ≠ wR.heap.size) ∧ (∀ x, b1 = some x → 0 < j → x.block ≠ wR.heap.size))
          clear hN hrow q0 q1 hbC hbR hrC n0p n1p
          go_wp2_with fail
          refine hO.mono ?_
          rintro e wD ⟨rfl, hrD, hoD⟩
          have rowD := rowC.only' hoD (fun x hx _ => by cases hx; show G ≠ _; omega)
          have q0d := q0c.only' hoD HN.out.1
          have q1d := q1c.only' hoD HN.out.2
          have hbD' : Below w.heap.size w wD := hbC'.trans (hoD.below hpw hbC'.size)
          have hR := rest_ok wR.heap.size (0 + 1 + k) (1 + k + j) G (1 + k + j) (1 + k + j) wD hrD (by omega) (Nat.le_refl _) (by omega)
          rw [show 1 + k + j - (0 + 1 + k) = j by omega, show 0 + 1 + k = 1 + k by omega] at hR
          clear hO rowC q0c q1c hbC' hoD hrD
          go_wp2_with fail
          refine hR.mono ?_
          rintro e wE ⟨rfl, hrE, hoE⟩
          have rowE := rowD.only' hoE (fun x hx _ => by cases hx; show G ≠ _; omega)
          have q0e := q0d.only' hoE HN.out.1
          have q1e := q1d.only' hoE HN.out.2
          have hbE' : Below w.heap.size w wE := hbD'.trans (hoE.below hpw hbD'.size)
          have hE1 := fun q => eq_true (cutA G (0 + 1) k) b0 k k d0 (Z.drop (0 + 1)) zq (wE.drewN q) (by omega) ((rowE.cut (by omega)).drewN q) (q0e.drewN q) (fun i hi => (drop_getD Z (0 + 1) i).trans (by rw [show 0 + 1 + i = 1 + i by omega]; exact HY.out.1 i hi))
          have hE2 := fun q => eq_true (cutA G (1 + k) j) b1 j j d1 (Z.drop (1 + k)) zt (wE.drewN q) (by omega) ((rowE.cut (by omega)).drewN q) (q1e.drewN q) (fun i hi => (drop_getD Z (1 + k) i).trans (HY.out.2.1 i hi))
          have hFi := fun q => finish_ok wR.heap.size (1 + k + j) (.slice (some ⟨G, 0, none⟩) (1 + k + j) (1 + k + j)) (wE.drewN q) (hrE.drewN q)
          have hcn := cut_nil
          have hcm := cut_some
          clear hR rowD q0d q1d hbD' hoE hrE q0e q1e
          go_wp2_with fail
          refine (hE1 0).mono ?_
          rintro e w' ⟨rfl, q, rfl⟩
          go_wp2_with fail
          refine (hE2 _).mono ?_
          rintro e w' ⟨rfl, q', rfl⟩
          go_wp2_with fail
          refine (hFi _).mono ?_
          rintro e w' ⟨rfl, q'', rfl⟩
          clear hE1 hE2 hFi
          by_cases hk0 : k = 0
          · subst hk0
            go_wp2_with fail
            go_ret
            exact ⟨rfl, below_drewN hbE' _⟩
          · go_wp2_with fail
            refine (newReader_any (some ⟨G, 0, none⟩) k (1 + k + j) _).mono ?_
            rintro e wF ⟨rfl, hrF, hbF⟩
            have rowF : BRow wF (some ⟨G, 0, none⟩) k Z := ((rowE.le (by omega)).drewN (q + q' + q'')).below hbF
            have hGE : G < wE.heap.size := rowE.lt _ rfl (by omega)
            have hbF' : Below w.heap.size w wF := (below_drewN hbE' (q + q' + q'')).trans (hbF.mono hbE'.size)
            have hO := opaque_past wE.heap.size 0 k G k (1 + k + j) Z wF hrF (by omega) rowF HZ.out.2.2 (Nat.le_refl _) (by omega) (by omega) k HZ.out.2.1 (by omega) (by omega)
            have hpE : w.heap.size ≤ wE.heap.size := hbE'.size
            have hnn : ∀ w, (binOp .neq 22 (.slice none 0 0) (.slice none 0 0)).run Tryf.prog w = .ok (.bool false) w := fun w => run_neq_slice_nil_any (P := Tryf.prog) w 22 5 none 0 0 0 0 Tryf.underlying22
            clear rowE hrF hbF rowF hbE' hcm hcn
            go_wp2_with fail
            refine hO.mono ?_
            rintro e wG ⟨rfl, pe, hrG, hfG, hnG, hoG⟩
            have hFa := fault_err wE.heap.size (0 + 1) k pe 0 _ wG hrG hfG
            have hbG' : Below w.heap.size w wG := hbF'.trans (hoG.below hpE hbF'.size)
            clear hO hoG hrG hfG hbF'
            go_wp2_with (go_at_call 12; refine hFa.mono ?_; rintro e w' ⟨⟨s, rfl⟩, q3, rfl⟩)
            go_ret
            exact ⟨rfl, below_drewN hbG' _⟩
end Go.Proofs.Qxb6604610aFmt
