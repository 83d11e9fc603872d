/-
  Opaque8 (11) with its body (35); Vector8 (34).
-/
import Derived.Test.Qxb6604610aFmtVec2
namespace Go.Proofs.Qxb6604610aFmt
open Go.RowKit Go.Extern.Stop Go.Stop Go.Extern

theorem Only.setOther {p : Nat} {a w : World} (h : Only p a w) {g : Nat} (hg : a.heap.size ≤ g) (j : Nat) (u : Value) : Only p a (w.setCell ⟨g, j, none⟩ u) :=
  ⟨h.os, h.tape, h.output, by simpa using h.size, fun k hk hp => (Below.heap_setCell w ⟨g, j, none⟩ u k (by show k ≠ g; omega)).trans (h.block k hk hp)⟩
theorem Rd.setOther {w : World} {p : Nat} {bv : Value} {off en : Nat} {err : Value} (h : Rd w p bv off en err) {g : Nat} (hg : p ≠ g) (j : Nat) (u : Value) : Rd (w.setCell ⟨g, j, none⟩ u) p bv off en err :=
  (Below.heap_setCell w ⟨g, j, none⟩ u p hg).trans h
theorem Rd.only {w w' : World} {p p' : Nat} {bv : Value} {off en : Nat} {err : Value} (h : Rd w p bv off en err) (ho : Only p' w w') (hp : p ≠ p') : Rd w' p bv off en err := (ho.block p h.lt hp).trans h

theorem enters35 : ∀ args w, (callFunc 35 args).run Tryf.prog w = .ok (.enter 35 args) w := by
  have hname : (Tryf.f35.name == "runtime.NumGoroutine") = false := by kernel_rfl
  have hb : Tryf.f35.body.isNone = false := by kernel_rfl
  intro args w
  have h1 : Tryf.f35.name ≠ "runtime.NumGoroutine" := by simpa using hname
  have hb' : Tryf.f35.body ≠ none := by intro h; rw [h] at hb; simp at hb
  simp [callFunc, Tryf.func35, h1, hb', mark]

set_option maxHeartbeats 1000000 in
/-- The body: p = r.Rest(). -/
theorem body35 (A P2 p off en b len cap : Nat) (v : Value) (w : World) (h : Rd w p (.slice (some ⟨b, 0, none⟩) len cap) off en .nilIface) (hoe : off ≤ en) (hec : en ≤ cap) (hen : en ≤ 2097152)
    (hA : w.cell? ⟨A, 0, none⟩ = some (.pointer (some ⟨p, 0, none⟩))) (hP : w.heap[P2]? = some (.cells #[v] 22 (0, 0))) (hne : P2 ≠ p) :
    Calls Tryf.prog 35 #[.pointer (some ⟨A, 0, none⟩), .pointer (some ⟨P2, 0, none⟩)] w fun e w' => e = .returned (.tuple #[]) ∧ ∃ w1, Only p w w1 ∧ Rd w1 p (.slice (some ⟨b, 0, none⟩) len cap) en en .nilIface ∧
      w'.heap[P2]? = some (.cells #[.slice (cutA b off (en - off)) (en - off) (en - off)] 22 (0, 0)) ∧ w' = w1.setCell ⟨P2, 0, none⟩ (.slice (cutA b off (en - off)) (en - off) (en - off)) := by
  have hT := rest_ok p off en b len cap w h hoe hec hen
  have hl : P2 < w.heap.size := (Array.getElem?_eq_some_iff.1 hP).1
  have HP : Hid (w.heap[P2]? = some (.cells #[v] 22 (0, 0))) := hP
  clear h hP
  generalize cutA b off (en - off) = ca at hT ⊢
  generalize en - off = m at hT ⊢
  go_enter Tryf.func35, Tryf.ntmps35
  go_wp2_with fail
  refine hT.mono ?_
  rintro e w1 ⟨rfl, hr1, ho1⟩
  have hP1 : w1.heap[P2]? = some (.cells #[v] 22 (0, 0)) := (ho1.block P2 hl hne).trans HP.out
  have d0 : w1.cell? ⟨P2, 0, none⟩ = some v := by rw [cell_of_row w1 P2 0 _ 22 (0, 0) hP1]; rfl
  have f0 : w1.frozen? ⟨P2, 0, none⟩ = false := frozen_of_row w1 P2 0 _ 22 hP1
  have hs := heap_setCell_same w1 P2 0 _ 22 (.slice ca m m) hP1
  have HS : Hid _ := hs
  have HO : Hid _ := ho1
  have HR : Hid _ := hr1
  clear hs ho1 hr1 hP1 HP hT
  go_wp2
  go_end0
  exact ⟨rfl, w1, HO.out, HR.out, HS.out, rfl⟩

set_option maxHeartbeats 1000000 in
theorem vector8_any (p g : Nat) (cb : Array Value) (w : World) (R : Ending → World → Prop)
    (hc : Calls Tryf.prog 44 #[.pointer (some ⟨p, 0, none⟩), .int .i64 (1 : Nat), .func (.func g) #[] cb] w fun e w' => e = .returned (.tuple #[]) ∧ R e w') :
    Calls Tryf.prog 34 #[.pointer (some ⟨p, 0, none⟩), .func (.func g) #[] cb] w fun e w' => e = .returned (.tuple #[]) ∧ R e w' := by
  go_enter Tryf.func34, Tryf.ntmps34
  go_wp2_with (go_at_call 44; refine hc.mono ?_; rintro e w' ⟨rfl, hR⟩)
  go_end0
  exact ⟨rfl, hR⟩

set_option maxHeartbeats 1000000 in
/-- L bytes stand behind the length byte: they come back. -/
theorem opaque_ok (p off en b len cap : Nat) (zs : List Int) (w : World) (h : Rd w p (.slice (some ⟨b, 0, none⟩) len cap) off en .nilIface) (hbp : b ≠ p) (row : BRow w (some ⟨b, 0, none⟩) len zs) (hz : Bytes zs)
    (hel : en ≤ len) (hlc : len ≤ cap) (hen : en ≤ 2097152) (L : Nat) (hL : zs.getD off 0 = L) (hs : off + 1 + L ≤ en) :
    Calls Tryf.prog 11 #[.pointer (some ⟨p, 0, none⟩)] w fun e w' => e = .returned (.slice (cutA b (off + 1) L) L L) ∧ Rd w' p (.slice (some ⟨b, 0, none⟩) len cap) (off + 1 + L) en .nilIface ∧ Only p w w' := by
  have eL : lenV zs off 1 = L := by simp only [lenV]; rw [Nat.add_zero, hL]; omega
  obtain ⟨W0, hW0⟩ : ∃ W0, W0 = (w.alloc (.cells #[.pointer (some ⟨p, 0, none⟩)] 25)).alloc (.cells #[.slice none 0 0] 22) := ⟨_, rfl⟩
  have hB0 : Below w.heap.size w W0 := by rw [hW0]; exact ((Below.refl _ w).alloc (Nat.le_refl _) _).alloc (by simp) _
  have hR0 : Rd W0 p (.slice (some ⟨b, 0, none⟩) len cap) off en .nilIface := by rw [hW0]; exact (h.alloc _).alloc _
  have hl := h.lt
  have hA0 : W0.cell? ⟨w.heap.size, 0, none⟩ = some (.pointer (some ⟨p, 0, none⟩)) := by
    rw [hW0]
    have h1 : (w.alloc (.cells #[.pointer (some ⟨p, 0, none⟩)] 25)).cell? ⟨w.heap.size, 0, none⟩ = some (.pointer (some ⟨p, 0, none⟩)) := by
      rw [World.cell?_alloc_at _ _ _ _ rfl]; rfl
    exact (((Below.refl _ (w.alloc (.cells #[.pointer (some ⟨p, 0, none⟩)] 25))).alloc (Nat.le_refl _) (.cells #[.slice none 0 0] 22)).cell (p := ⟨w.heap.size, 0, none⟩) (by simp)).trans h1
  have hP0 : W0.heap[w.heap.size + 1]? = some (.cells #[.slice none 0 0] 22 (0, 0)) := by
    rw [hW0]
    have := heap_alloc_new (w.alloc (.cells #[.pointer (some ⟨p, 0, none⟩)] 25)) (.cells #[.slice none 0 0] 22)
    rwa [World.size_alloc] at this
  have hV := vector8_any p 35 #[.pointer (some ⟨w.heap.size, 0, none⟩), .pointer (some ⟨w.heap.size + 1, 0, none⟩)] W0 _
    (vector_ok p off en 1 35 b len cap #[.pointer (some ⟨w.heap.size, 0, none⟩), .pointer (some ⟨w.heap.size + 1, 0, none⟩)] zs W0
      (fun w2 => Rd w2 p (.slice (some ⟨b, 0, none⟩) len cap) (off + 1 + L) (off + 1 + L) .nilIface ∧ w2.heap[w.heap.size + 1]? = some (.cells #[.slice (cutA b (off + 1) L) L L] 22 (0, 0)) ∧ Only p w w2)
      hR0 hbp (row.below hB0) hz hel hlc hen (Nat.le_refl _) (by omega) (by rw [eL]; exact hs) enters35
      (fun w1 hr1 ho1 => by
        rw [eL] at hr1
        have hA1 : w1.cell? ⟨w.heap.size, 0, none⟩ = some (.pointer (some ⟨p, 0, none⟩)) := (World.cell?_of_block (w := W0) (a := ⟨w.heap.size, 0, none⟩) (ho1.block w.heap.size (World.block_lt_of_cell? _ _ hA0) (by omega))).trans hA0
        have hP1 := (ho1.block (w.heap.size + 1) (Array.getElem?_eq_some_iff.1 hP0).1 (by omega)).trans hP0
        refine (body35 w.heap.size (w.heap.size + 1) p (off + 1) (off + 1 + L) b len cap _ w1 hr1 (by omega) (by omega) (by omega) hA1 hP1 (by omega)).mono ?_
        rintro e w' ⟨rfl, w2, ho2, hr2, hg2, rfl⟩
        rw [show off + 1 + L - (off + 1) = L by omega] at hg2 ⊢
        refine ⟨rfl, hr2.setOther (by omega) _ _, hg2, ?_⟩
        exact (((Only.of_below hB0).trans ho1).trans ho2).setOther (by omega) _ _)
      (fun w2 h2 => ⟨_, _, by rw [eL]; exact h2.1, Or.inl ⟨rfl, by rw [eL]⟩⟩))
  have HW0 : Hid (W0 = (w.alloc (.cells #[.pointer (some ⟨p, 0, none⟩)] 25)).alloc (.cells #[.slice none 0 0] 22)) := hW0
  clear hW0 hP0 hA0 hR0 hB0 h row eL hL
  go_enter Tryf.func11, Tryf.ntmps11
  go_wp2_with fail
  rw [← HW0.out]
  refine hV.mono ?_
  rintro e w3 ⟨rfl, w2, q, ⟨hr2, hg2, ho2⟩, rfl⟩
  have hr3 : Rd (w2.setCell ⟨p, 2, none⟩ (.int .i64 en)) p (.slice (some ⟨b, 0, none⟩) len cap) (off + 1 + L) en .nilIface := hr2.set 2 _
  have hg3 : (w2.setCell ⟨p, 2, none⟩ (.int .i64 en)).heap[w.heap.size + 1]? = some (.cells #[.slice (cutA b (off + 1) L) L L] 22 (0, 0)) := (Below.heap_setCell w2 ⟨p, 2, none⟩ _ (w.heap.size + 1) (by show w.heap.size + 1 ≠ p; omega)).trans hg2
  have ho3 : Only p w (w2.setCell ⟨p, 2, none⟩ (.int .i64 en)) := ho2.setCell 2 _
  have d0 : (w2.setCell ⟨p, 2, none⟩ (.int .i64 en)).cell? ⟨w.heap.size + 1, 0, none⟩ = some (.slice (cutA b (off + 1) L) L L) := by rw [cell_of_row _ (w.heap.size + 1) 0 _ 22 (0, 0) hg3]; rfl
  generalize w2.setCell ⟨p, 2, none⟩ (.int .i64 en) = w4 at hr3 hg3 ho3 d0 ⊢
  clear hg2 ho2 hr2 hV HW0 hg3
  go_wp2
  go_ret
  exact ⟨rfl, hr3.drewN _, ho3.drewN _⟩

set_option maxHeartbeats 1000000 in
/-- The reading fails in the length field: nothing comes back. -/
theorem opaque_bad (p off2 en k : Nat) (bv : Value) (w : World) (hl : p < w.heap.size)
    (hc : ∀ (W0 : World) (cb : Array Value), Below w.heap.size w W0 → Calls Tryf.prog 44 #[.pointer (some ⟨p, 0, none⟩), .int .i64 (1 : Nat), .func (.func 35) #[] cb] W0 fun e w' => e = .returned (.tuple #[]) ∧ ∃ pe, Rd w' p bv off2 en (faultV pe) ∧ FaultAt w' pe k ∧ pe ≠ p ∧ Only p W0 w') :
    Calls Tryf.prog 11 #[.pointer (some ⟨p, 0, none⟩)] w fun e w' => e = .returned (.slice none 0 0) ∧ ∃ pe, Rd w' p bv off2 en (faultV pe) ∧ FaultAt w' pe k ∧ pe ≠ p ∧ Only p w w' := by
  obtain ⟨W0, hW0⟩ : ∃ W0, W0 = (w.alloc (.cells #[.pointer (some ⟨p, 0, none⟩)] 25)).alloc (.cells #[.slice none 0 0] 22) := ⟨_, rfl⟩
  have hB0 : Below w.heap.size w W0 := by rw [hW0]; exact ((Below.refl _ w).alloc (Nat.le_refl _) _).alloc (by simp) _
  have hP0 : W0.heap[w.heap.size + 1]? = some (.cells #[.slice none 0 0] 22 (0, 0)) := by
    rw [hW0]
    have := heap_alloc_new (w.alloc (.cells #[.pointer (some ⟨p, 0, none⟩)] 25)) (.cells #[.slice none 0 0] 22)
    rwa [World.size_alloc] at this
  have hV := vector8_any p 35 #[.pointer (some ⟨w.heap.size, 0, none⟩), .pointer (some ⟨w.heap.size + 1, 0, none⟩)] W0 _ (hc W0 #[.pointer (some ⟨w.heap.size, 0, none⟩), .pointer (some ⟨w.heap.size + 1, 0, none⟩)] hB0)
  have HW0 : Hid (W0 = (w.alloc (.cells #[.pointer (some ⟨p, 0, none⟩)] 25)).alloc (.cells #[.slice none 0 0] 22)) := hW0
  have HP0 : Hid _ := hP0
  clear hW0 hc hP0
  go_enter Tryf.func11, Tryf.ntmps11
  go_wp2_with fail
  rw [← HW0.out]
  refine hV.mono ?_
  rintro e w3 ⟨rfl, pe, hr, hf, hn, ho⟩
  have hg3 : w3.heap[w.heap.size + 1]? = some (.cells #[.slice none 0 0] 22 (0, 0)) := (ho.block (w.heap.size + 1) (Array.getElem?_eq_some_iff.1 HP0.out).1 (by omega)).trans HP0.out
  have d0 : w3.cell? ⟨w.heap.size + 1, 0, none⟩ = some (.slice none 0 0) := by rw [cell_of_row _ (w.heap.size + 1) 0 _ 22 (0, 0) hg3]; rfl
  clear hg3 HP0 hV HW0
  go_wp2
  go_ret
  exact ⟨rfl, pe, hr, hf, hn, (Only.of_below hB0).trans ho⟩

theorem opaque_short (p off en : Nat) (bv : Value) (w : World) (h : Rd w p bv off en .nilIface) (hoe : off ≤ en) (hs : en < off + 1) (hen : en ≤ 2097152) :
    Calls Tryf.prog 11 #[.pointer (some ⟨p, 0, none⟩)] w fun e w' => e = .returned (.slice none 0 0) ∧ ∃ pe, Rd w' p bv off en (faultV pe) ∧ FaultAt w' pe off ∧ pe ≠ p ∧ Only p w w' :=
  opaque_bad p off en off bv w h.lt (fun W0 cb hb => vector_short p off en 1 35 cb bv W0 ((hb.block p h.lt).trans h) hoe hs hen)

theorem opaque_past (p off en b len cap : Nat) (zs : List Int) (w : World) (h : Rd w p (.slice (some ⟨b, 0, none⟩) len cap) off en .nilIface) (hbp : b ≠ p) (row : BRow w (some ⟨b, 0, none⟩) len zs) (hz : Bytes zs)
    (hel : en ≤ len) (hlc : len ≤ cap) (hen : en ≤ 2097152) (L : Nat) (hL : zs.getD off 0 = L) (hse : off + 1 ≤ en) (hs : en < off + 1 + L) :
    Calls Tryf.prog 11 #[.pointer (some ⟨p, 0, none⟩)] w fun e w' => e = .returned (.slice none 0 0) ∧ ∃ pe, Rd w' p (.slice (some ⟨b, 0, none⟩) len cap) (off + 1) en (faultV pe) ∧ FaultAt w' pe off ∧ pe ≠ p ∧ Only p w w' := by
  have eL : lenV zs off 1 = L := by simp only [lenV]; rw [Nat.add_zero, hL]; omega
  exact opaque_bad p (off + 1) en off _ w h.lt (fun W0 cb hb => vector_past p off en 1 35 b len cap cb zs W0 ((hb.block p h.lt).trans h) hbp (row.below hb) hz hel hlc hen (Nat.le_refl _) (by omega) hse (by rw [eL]; exact hs))
end Go.Proofs.Qxb6604610aFmt
