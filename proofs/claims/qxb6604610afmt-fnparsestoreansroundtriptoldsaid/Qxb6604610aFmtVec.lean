/-
  within (48), vector (44): a length field, then a body that reads within the bounds that it sets.
-/
import Derived.Test.Qxb6604610aFmtMore
namespace Go.Proofs.Qxb6604610aFmt
open Go.RowKit Go.Extern.Stop Go.Stop Go.Extern

theorem rd_cast_en {w : World} {p off k : Nat} {bv err : Value} {z : Int} (e : (k : Int) = z) (h : w.heap[p]? = some (.cells #[bv, .int .i64 off, .int .i64 z, err] 66 (0, 0))) : Rd w p bv off k err := by
  unfold Rd; rw [e]; exact h

set_option maxHeartbeats 2000000 in
theorem within_ok (p off en n k g : Nat) (cb : Array Value) (bv : Value) (w : World) (POST : World → Prop) (h : Rd w p bv off en .nilIface) (hn : off + n ≤ en) (hen : en ≤ 2097152)
    (eg : ∀ args w, (callFunc g args).run Tryf.prog w = .ok (.enter g args) w)
    (hbody : ∀ w1, Rd w1 p bv off (off + n) .nilIface → Only p w w1 → Calls Tryf.prog g cb w1 fun e w2 => e = .returned (.tuple #[]) ∧ POST w2)
    (hpost : ∀ w2, POST w2 → ∃ off2 err, Rd w2 p bv off2 (off + n) err ∧ ((err = .nilIface ∧ off2 = off + n) ∨ ∃ pe, err = faultV pe)) :
    Calls Tryf.prog 48 #[.pointer (some ⟨p, 0, none⟩), .int .i64 k, .int .u64 n, .func (.func g) #[] cb] w fun e w' => e = .returned (.tuple #[]) ∧ ∃ w2 q, POST w2 ∧ w' = (w2.setCell ⟨p, 2, none⟩ (.int .i64 en)).drewN q := by
  obtain ⟨c0, c1, c2, c3⟩ := h.cells
  have f2 := h.free 2
  have hlt := h.lt
  have HR : Hid (Rd w p bv off en .nilIface) := h
  have HB : Hid (∀ w1, Rd w1 p bv off (off + n) .nilIface → Only p w w1 → Calls Tryf.prog g cb w1 fun e w2 => e = .returned (.tuple #[]) ∧ POST w2) := hbody
  have HP : Hid (∀ w2, POST w2 → ∃ off2 err, Rd w2 p bv off2 (off + n) err ∧ ((err = .nilIface ∧ off2 = off + n) ∨ ∃ pe, err = faultV pe)) := hpost
  clear h hbody hpost
  go_enter Tryf.func48, Tryf.ntmps48
  go_wp2
  go_quiet (fail)
  go_wp2
  refine (HB.out _ (rd_cast_en (Int.natCast_add off n) ((HR.out.drewN _).set 2 _)) (((Only.refl p w).drewN _).setCell 2 _)).mono ?_
  rintro e w2 ⟨rfl, hP⟩
  obtain ⟨off2, err, hr2, hcase⟩ := HP.out w2 hP
  obtain ⟨d0, d1, d2, d3⟩ := hr2.cells
  have g2 := hr2.free 2
  have hlt2 := hr2.lt
  clear HR HB HP hr2 c0 c1 c2 c3 f2
  rcases hcase with ⟨rfl, rfl⟩ | ⟨pe, rfl⟩
  · go_wp2
    go_quiet (fail)
    go_wp2
    go_end0
    exact ⟨rfl, w2, _, hP, rfl⟩
  · go_wp2
    go_quiet (fail)
    go_wp2
    go_end0
    exact ⟨rfl, w2, _, hP, rfl⟩

set_option maxHeartbeats 2000000 in
theorem within_past (p off en n k g : Nat) (cb : Array Value) (bv : Value) (w : World) (h : Rd w p bv off en .nilIface) (hoe : off ≤ en) (hn : en < off + n) (hen : en ≤ 2097152) :
    Calls Tryf.prog 48 #[.pointer (some ⟨p, 0, none⟩), .int .i64 k, .int .u64 n, .func (.func g) #[] cb] w fun e w' => e = .returned (.tuple #[]) ∧ ∃ pe, Rd w' p bv off en (faultV pe) ∧ FaultAt w' pe k ∧ pe ≠ p ∧ Only p w w' := by
  obtain ⟨c0, c1, c2, c3⟩ := h.cells
  have hlt := h.lt
  have HR : Hid (Rd w p bv off en .nilIface) := h
  clear h
  have hd : (en : Int) - (off : Int) < (n : Int) := by omega
  go_enter Tryf.func48, Tryf.ntmps48
  go_wp2
  go_quiet (fail)
  go_wp2
  go_region_held3 (fun w' => w'.cell? ⟨p, 1, none⟩ = some (.int .i64 off) ∧ w'.cell? ⟨p, 2, none⟩ = some (.int .i64 en)) (go_keep)
    (first | (refine step_sprintf rfl _ (.tmp 40) rfl (.string fmtA) rfl (.slice (some ⟨w.heap.size, 0, none⟩) 2 2) rfl (sprintfA _ _ ⟨_, (ops2 w _ _ _).1⟩ ⟨_, (ops2 w _ _ _).2⟩) ?_; intro s) | (go_at_call 36; refine (fail_any p off en k bv _ _ ?_).mono ?_; exact (Rd.alloc (HR.out.drewN _) _).drew; rintro e w1 ⟨rfl, hr1, hr2, hr3⟩; obtain ⟨-, hk1, hk2, hk3⟩ := hr1.cells))
  go_wp2
  exact bodyPost_ret (v := .tuple #[]) (by simp [results, Tryf.results48]) rfl ⟨rfl, _, hr1, hr2, by simp; omega, ((((Only.refl p w).drewN _).alloc _).drew).trans hr3⟩
end Go.Proofs.Qxb6604610aFmt
