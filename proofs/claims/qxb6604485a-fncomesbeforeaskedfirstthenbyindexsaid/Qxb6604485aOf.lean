/-
  place (37), of (30), ZZpartsOf (11), partOf (38), comesBefore (32), ZZcomesBefore (19), ZZnewFootprint (17).
-/
import Derived.Test.Qxb6604485aSearch
namespace Go.Proofs.Qxb6604485a
open Go.RowKit

theorem cell_new1 (W : World) (v : Value) (t : TypeId) : (W.alloc (.cells #[v] t)).cell? ⟨W.heap.size, 0, none⟩ = some v := by
  rw [World.cell?_alloc_at _ _ _ _ (by simp)]; rfl
theorem cell_past {W : World} {a : Addr} {v : Value} (o : Obj) (h : W.cell? a = some v) : (W.alloc o).cell? a = some v :=
  ((Below.refl W.heap.size W).alloc (Nat.le_refl _) o).cell (World.block_lt_of_cell? _ _ h) |>.trans h

set_option maxHeartbeats 400000 in
theorem place_any (b n cap : Nat) (xs ms : List Int) (key : Int) (w : World) (hn : n ≤ 65536) (hP : PartsAt w b n xs ms) (HA : Hid (ascB xs n = true)) :
    Calls Try.prog 37 #[.slice (some ⟨b, 0, none⟩) n cap, .int .i64 key] w fun e w' => e = .returned (.int .i64 (cntB xs key n : Nat)) ∧ Below w.heap.size w w' := by
  obtain ⟨W0, hW0⟩ : ∃ W0, W0 = (w.alloc (.cells #[.slice (some ⟨b, 0, none⟩) n cap] 29)).alloc (.cells #[.int .i64 key] 2) := ⟨_, rfl⟩
  have hB0 : Below w.heap.size w W0 := by rw [hW0]; exact ((Below.refl _ w).alloc (Nat.le_refl _) _).alloc (by simp) _
  have hsee : Sees W0 w.heap.size (w.heap.size + 1) b n cap xs ms key := by
    refine ⟨?_, ?_, hP.below hB0 hP.1⟩
    · rw [hW0]; exact cell_past _ (cell_new1 w _ _)
    · rw [hW0]
      have := cell_new1 (w.alloc (.cells #[.slice (some ⟨b, 0, none⟩) n cap] 29)) (.int .i64 key) 2
      rwa [World.size_alloc] at this
  have hS := search_any w.heap.size (w.heap.size + 1) b n cap xs ms key W0 hn hsee HA
  clear hsee hP
  generalize cntB xs key n = r at hS ⊢
  have HW0 : Hid (W0 = (w.alloc (.cells #[.slice (some ⟨b, 0, none⟩) n cap] 29)).alloc (.cells #[.int .i64 key] 2)) := hW0
  clear hW0
  go_enter Try.func37, Try.ntmps37
  go_wp2_with (go_at_call 42; rw [← HW0.out]; refine hS.mono ?_; rintro e w' ⟨rfl, hb⟩)
  go_ret
  exact ⟨rfl, hB0.trans (hb.mono hB0.size)⟩

theorem bcell {W w1 : World} (hb : Below W.heap.size W w1) : (∀ b o, b < W.heap.size → w1.cell? ⟨b, o, none⟩ = W.cell? ⟨b, o, none⟩) ∧ (∀ b o, b < W.heap.size → w1.frozen? ⟨b, o, none⟩ = W.frozen? ⟨b, o, none⟩) :=
  ⟨fun b o h => hb.cell (p := ⟨b, o, none⟩) h, fun b o h => hb.frozen (p := ⟨b, o, none⟩) h⟩

/-- The result's slot, laid ahead of a call, behind it. -/
theorem slot_facts {w w1 : World} (hb : Below (w.alloc (.cells #[.int .i64 0, .int .i64 0] 26)).heap.size (w.alloc (.cells #[.int .i64 0, .int .i64 0] 26)) w1) :
    w1.cell? ⟨w.heap.size, 0, none⟩ = some (.int .i64 0) ∧ w1.cell? ⟨w.heap.size, 1, none⟩ = some (.int .i64 0) ∧ w1.frozen? ⟨w.heap.size, 0, none⟩ = false ∧ w1.frozen? ⟨w.heap.size, 1, none⟩ = false := by
  refine ⟨?_, ?_, ?_, ?_⟩
  · rw [hb.cell (p := ⟨w.heap.size, 0, none⟩) (by simp)]; simp
  · rw [hb.cell (p := ⟨w.heap.size, 1, none⟩) (by simp)]; simp
  · rw [hb.frozen (p := ⟨w.heap.size, 0, none⟩) (by simp)]; simp
  · rw [hb.frozen (p := ⟨w.heap.size, 1, none⟩) (by simp)]; simp
theorem slot_below {w w1 : World} {o : Obj} (hb : Below (w.alloc o).heap.size (w.alloc o) w1) : Below w.heap.size w w1 :=
  ((Below.refl _ w).alloc (Nat.le_refl _) o).trans (hb.mono (by simp))

set_option maxHeartbeats 1000000 in
/-- The key is there, at place p. -/
theorem of_at (b n cap p : Nat) (xs ms : List Int) (key : Int) (w : World) (hn : n ≤ 65536) (hP : PartsAt w b n xs ms) (HA : Hid (ascB xs n = true)) (hp : p < n) (hk : xs.getD p 0 = key) :
    Calls Try.prog 30 #[.slice (some ⟨b, 0, none⟩) n cap, .int .i64 key] w fun e w' => e = .returned (.agg #[.int .i64 key, .int .i64 (ms.getD p 0)]) ∧ Below w.heap.size w w' := by
  have hcn : cntB xs key n = p := cntB_eq (by omega) (fun t ht => by have := asc_lt HA.out t p ht hp; omega) (fun t h1 h2 => by
    by_cases e : t = p
    · subst e; omega
    · have := asc_lt HA.out p t (by omega) h2; omega)
  have hc := place_any b n cap xs ms key (w.alloc (.cells #[.int .i64 0, .int .i64 0] 26)) hn (hP.below ((Below.refl _ w).alloc (Nat.le_refl _) _) hP.1) HA
  rw [hcn] at hc
  have g0 := (hP.2 p hp).1
  have g1 := (hP.2 p hp).2
  rw [hk, Nat.mul_comm] at g0
  rw [Nat.mul_comm] at g1
  have hbl := hP.1
  have hpz : (p : Int) < (n : Int) := by omega
  generalize ms.getD p 0 = m at g1 ⊢
  clear hP HA hcn hk
  go_enter Try.func30, Try.ntmps30
  go_wp2_with fail
  refine hc.mono ?_
  rintro e w1 ⟨rfl, hb⟩
  have hz : w.heap.size < w1.heap.size := by have := hb.size; simp at this; omega
  have hbl1 : b < w1.heap.size := by omega
  have k0 : w1.cell? ⟨b, p * 2, none⟩ = some (.int .i64 key) := (hb.cell (p := ⟨b, p * 2, none⟩) (by simp; omega)).trans (cell_past _ g0)
  have k1 : w1.cell? ⟨b, p * 2 + 1, none⟩ = some (.int .i64 m) := (hb.cell (p := ⟨b, p * 2 + 1, none⟩) (by simp; omega)).trans (cell_past _ g1)
  obtain ⟨r0, r1, f0, f1⟩ := slot_facts hb
  have hbe := slot_below hb
  clear g0 g1 hc hb
  go_wp2_with (refine wpList_invoke rfl (.tmp 19) _ rfl 26 (.agg #[.int .i64 key, .int .i64 m]) rfl 95 (by intro w; kernel_rfl) enters95 (.int .i64 key) _ (key_any key m _) ?_)
  exact bodyPost_ret (v := .agg #[.int .i64 key, .int .i64 m]) (by simp [results, Try.results30, go_sem, r0, r1, hz]) rfl ⟨rfl, ((hbe.setCell (Nat.le_refl _) _).setCell (Nat.le_refl _) _).alloc (by simp; omega) _⟩

set_option maxHeartbeats 1000000 in
/-- The key is not there. -/
theorem of_absent (b n cap : Nat) (xs ms : List Int) (key : Int) (w : World) (hn : n ≤ 65536) (hP : PartsAt w b n xs ms) (HA : Hid (ascB xs n = true)) (hk : ∀ j, j < n → xs.getD j 0 ≠ key) :
    Calls Try.prog 30 #[.slice (some ⟨b, 0, none⟩) n cap, .int .i64 key] w fun e w' => e = .returned (.agg #[.int .i64 0, .int .i64 0]) ∧ Below w.heap.size w w' := by
  have hc := place_any b n cap xs ms key (w.alloc (.cells #[.int .i64 0, .int .i64 0] 26)) hn (hP.below ((Below.refl _ w).alloc (Nat.le_refl _) _) hP.1) HA
  have hle := cntB_le xs key n
  generalize cntB xs key n = c at hc hle
  have hbl := hP.1
  by_cases hp : c < n
  · have g0 := (hP.2 c hp).1
    have g1 := (hP.2 c hp).2
    have hne : (xs.getD c 0 == key) = false := by have := hk c hp; simpa using this
    rw [Nat.mul_comm] at g0 g1
    have hpz : (c : Int) < (n : Int) := by omega
    generalize ms.getD c 0 = m at g1 ⊢
    generalize xs.getD c 0 = x at g0 hne ⊢
    clear hP HA hk
    go_enter Try.func30, Try.ntmps30
    go_wp2_with fail
    refine hc.mono ?_
    rintro e w1 ⟨rfl, hb⟩
    have hz : w.heap.size < w1.heap.size := by have := hb.size; simp at this; omega
    have hbl1 : b < w1.heap.size := by omega
    have k0 : w1.cell? ⟨b, c * 2, none⟩ = some (.int .i64 x) := (hb.cell (p := ⟨b, c * 2, none⟩) (by simp; omega)).trans (cell_past _ g0)
    have k1 : w1.cell? ⟨b, c * 2 + 1, none⟩ = some (.int .i64 m) := (hb.cell (p := ⟨b, c * 2 + 1, none⟩) (by simp; omega)).trans (cell_past _ g1)
    obtain ⟨r0, r1, f0, f1⟩ := slot_facts hb
    have hbe := slot_below hb
    clear g0 g1 hc hb
    go_wp2_with (refine wpList_invoke rfl (.tmp 19) _ rfl 26 (.agg #[.int .i64 x, .int .i64 m]) rfl 95 (by intro w; kernel_rfl) enters95 (.int .i64 x) _ (key_any x m _) ?_)
    have hz1 : w.heap.size < w1.heap.size + 1 := by omega
    exact bodyPost_ret (v := .agg #[.int .i64 0, .int .i64 0]) (by simp [results, Try.results30, go_sem, r0, r1, hz, hz1]) rfl ⟨rfl, (((hbe.setCell (Nat.le_refl _) _).setCell (Nat.le_refl _) _).alloc (by simp; omega) _).alloc (by simp; omega) _⟩
  · have ec : c = n := by omega
    subst ec
    clear hP HA hk
    go_enter Try.func30, Try.ntmps30
    go_wp2_with fail
    refine hc.mono ?_
    rintro e w1 ⟨rfl, hb⟩
    have hz : w.heap.size < w1.heap.size := by have := hb.size; simp at this; omega
    obtain ⟨r0, r1, f0, f1⟩ := slot_facts hb
    have hbe := slot_below hb
    clear hc hb
    go_wp2_with fail
    exact bodyPost_ret (v := .agg #[.int .i64 0, .int .i64 0]) (by simp [results, Try.results30, go_sem, r0, r1, hz]) rfl ⟨rfl, ((hbe.setCell (Nat.le_refl _) _).setCell (Nat.le_refl _) _).alloc (by simp; omega) _⟩

/-- A footprint behind its pointer: its parts' field. -/
def FootAt (w : World) (pf b n : Nat) (xs ms : List Int) : Prop :=
  w.cell? ⟨pf, 6, none⟩ = some (.slice (some ⟨b, 0, none⟩) n n) ∧ PartsAt w b n xs ms

theorem FootAt.below {w w' : World} {pf b n : Nat} {xs ms : List Int} (h : FootAt w pf b n xs ms) (hb : Below w.heap.size w w') : FootAt w' pf b n xs ms :=
  ⟨(hb.cell (p := ⟨pf, 6, none⟩) (World.block_lt_of_cell? _ _ h.1)).trans h.1, h.2.below hb h.2.1⟩

set_option maxHeartbeats 1000000 in
theorem foot_any (b n : Nat) (xs ms : List Int) (w : World) (hP : PartsAt w b n xs ms) :
    Calls Try.prog 17 #[.slice (some ⟨b, 0, none⟩) n n] w fun e w' => e = .returned (.pointer (some ⟨w.heap.size, 0, none⟩)) ∧ FootAt w' w.heap.size b n xs ms ∧ Below w.heap.size w w' := by
  have hB := fun o => (Below.refl w.heap.size w).alloc (Nat.le_refl _) o
  have hP' := fun o => hP.below (hB o) hP.1
  clear hP
  go_enter Try.func17, Try.ntmps17
  go_wp2
  go_ret
  refine ⟨rfl, ⟨?_, hP' _⟩, hB _⟩
  rw [World.cell?_alloc_at _ _ _ _ (by simp)]; rfl

theorem field26 : ∀ (k m : Int) (w : World), (Instr.field 26 (.agg #[.int .i64 k, .int .i64 m]) 1).run Try.prog w = .ok (.int .i64 m) w := fun _ _ _ => by kernel_rfl

set_option maxRecDepth 10000 in
set_option maxHeartbeats 1000000 in
theorem partOf_any (pf b n : Nat) (xs ms : List Int) (x : Int) (w : World) (hn : n ≤ 65536) (hF : FootAt w pf b n xs ms) (HA : Hid (ascB xs n = true)) :
    Calls Try.prog 38 #[.pointer (some ⟨pf, 0, none⟩), .int .i64 x] w fun e w' => e = .returned (.int .i64 (ofM xs ms x n)) ∧ Below w.heap.size w w' := by
  obtain ⟨k, m, hm, hc⟩ : ∃ k m, ofM xs ms x n = m ∧ Calls Try.prog 30 #[.slice (some ⟨b, 0, none⟩) n n, .int .i64 x] w fun e w' => e = .returned (.agg #[.int .i64 k, .int .i64 m]) ∧ Below w.heap.size w w' := by
    by_cases h : ∃ p, p < n ∧ xs.getD p 0 = x
    · obtain ⟨p, hp, hx⟩ := h
      exact ⟨_, _, ofM_at HA.out hp hx, of_at b n n p xs ms x w hn hF.2 HA hp hx⟩
    · have hk : ∀ j, j < n → xs.getD j 0 ≠ x := fun j hj e => h ⟨j, hj, e⟩
      exact ⟨_, _, ofM_absent hk, of_absent b n n xs ms x w hn hF.2 HA hk⟩
  have g := hF.1
  rw [hm]
  clear hm hF HA
  have hfl := field26
  go_enter Try.func38, Try.ntmps38
  go_wp2_with (go_at_call 30; refine hc.mono ?_; rintro e w' ⟨rfl, hb⟩)
  go_ret
  exact ⟨rfl, hb⟩

set_option maxHeartbeats 1000000 in
theorem partOf_nil (x : Int) (w : World) :
    Calls Try.prog 38 #[.pointer none, .int .i64 x] w fun e w' => e = .returned (.int .i64 0) ∧ w' = w := by
  go_enter Try.func38, Try.ntmps38
  go_wp2
  go_ret
  exact ⟨rfl, rfl⟩

/-- Asked first, then by index. -/
def cbB (pa pb a b : Int) : Bool := if decide (0 < pa) != decide (0 < pb) then decide (0 < pa) else decide (a < b)

set_option maxHeartbeats 1000000 in
theorem comes_any (pf b n : Nat) (xs ms : List Int) (x y : Int) (w : World) (hn : n ≤ 65536) (hF : FootAt w pf b n xs ms) (HA : Hid (ascB xs n = true)) :
    Calls Try.prog 32 #[.pointer (some ⟨pf, 0, none⟩), .int .i64 x, .int .i64 y] w fun e w' => e = .returned (.bool (cbB (ofM xs ms x n) (ofM xs ms y n) x y)) ∧ Below w.heap.size w w' := by
  have hc := fun z W hW => partOf_any pf b n xs ms z W hn hW HA
  generalize hpa : ofM xs ms x n = pa
  generalize hpb : ofM xs ms y n = pb
  have HC : Hid (∀ z W, FootAt W pf b n xs ms → Calls Try.prog 38 #[.pointer (some ⟨pf, 0, none⟩), .int .i64 z] W fun e w' => e = .returned (.int .i64 (ofM xs ms z n)) ∧ Below W.heap.size W w') := hc
  clear hc
  have HPA : Hid (ofM xs ms x n = pa) := hpa
  have HPB : Hid (ofM xs ms y n = pb) := hpb
  clear hpa hpb
  have HF : Hid (FootAt w pf b n xs ms) := hF
  clear hF HA
  go_enter Try.func32, Try.ntmps32
  go_wp2_with fail
  refine (HC.out _ _ HF.out).mono ?_
  rintro e w1 ⟨rfl, hb1⟩
  rw [HPA.out]
  go_wp2_with fail
  refine (HC.out _ _ (HF.out.below hb1)).mono ?_
  rintro e w2 ⟨rfl, hb2⟩
  rw [HPB.out]
  have hb := hb1.trans (hb2.mono hb1.size)
  clear hb1 hb2 HF HC HPA HPB
  cases h1 : decide (0 < pa)
  all_goals cases h2 : decide (0 < pb)
  all_goals
    go_wp2
    go_ret
    exact ⟨ret_bool (by simp only [cbB, h1, h2]; rfl), hb⟩

set_option maxHeartbeats 1000000 in
theorem comes_nil (x y : Int) (w : World) :
    Calls Try.prog 32 #[.pointer none, .int .i64 x, .int .i64 y] w fun e w' => e = .returned (.bool (cbB 0 0 x y)) ∧ w' = w := by
  go_enter Try.func32, Try.ntmps32
  go_wp2_with (go_at_call 38; refine (partOf_nil _ _).mono ?_; rintro e w' ⟨rfl, rfl⟩)
  go_ret
  exact ⟨ret_bool (by simp [cbB]), rfl⟩

set_option maxHeartbeats 1000000 in
theorem before_any (pf b n : Nat) (xs ms : List Int) (x y : Int) (w : World) (hn : n ≤ 65536) (hF : FootAt w pf b n xs ms) (HA : Hid (ascB xs n = true)) :
    Calls Try.prog 19 #[.pointer (some ⟨pf, 0, none⟩), .int .i64 x, .int .i64 y] w fun e w' => e = .returned (.bool (cbB (ofM xs ms x n) (ofM xs ms y n) x y)) ∧ Below w.heap.size w w' := by
  have hc := comes_any pf b n xs ms x y w hn hF HA
  generalize cbB (ofM xs ms x n) (ofM xs ms y n) x y = r at hc ⊢
  clear hF HA
  go_enter Try.func19, Try.ntmps19
  go_wp2_with (go_at_call 32; refine hc.mono ?_; rintro e w' ⟨rfl, hb⟩)
  go_ret
  exact ⟨rfl, hb⟩

set_option maxHeartbeats 1000000 in
theorem before_nil (x y : Int) (w : World) :
    Calls Try.prog 19 #[.pointer none, .int .i64 x, .int .i64 y] w fun e w' => e = .returned (.bool (cbB 0 0 x y)) ∧ w' = w := by
  have hc := comes_nil x y w
  generalize cbB 0 0 x y = r at hc ⊢
  go_enter Try.func19, Try.ntmps19
  go_wp2_with (go_at_call 32; refine hc.mono ?_; rintro e w' ⟨rfl, rfl⟩)
  go_ret
  exact ⟨rfl, rfl⟩

end Go.Proofs.Qxb6604485a
