/-
  ParseStoreAns (41): the walk.
-/
import Derived.Test.Qxb6604610aFmtParse
namespace Go.Proofs.Qxb6604610aFmt
open Go.RowKit Go.Extern.Stop Go.Stop Go.Extern

/-- How ParseStoreAns ends. -/
def Parsed (G n s : Nat) (zs : List Int) (w : World) (v err : Value) (w' : World) : Prop :=
  Below w.heap.size w w' ∧ ((∃ a m c rvs, v = .agg #[.slice a m c] ∧ err = .nilIface ∧ n = 2 + lenV zs 0 2 ∧ Whole G s n zs w.heap.size w' (.slice a m c) m rvs) ∨
    ∃ pe f, v = .agg #[.slice none 0 0] ∧ err = faultV pe ∧ FaultAt w' pe f ∧ Why zs s n f)

theorem three (w : World) (a b c : Value) (t u v : TypeId) :
    let W := ((w.alloc (.cells #[a] t)).alloc (.cells #[b] u)).alloc (.cells #[c] v)
    W.heap[w.heap.size]? = some (.cells #[a] t (0, 0)) ∧ W.heap[w.heap.size + 1]? = some (.cells #[b] u (0, 0)) ∧ W.heap[w.heap.size + 1 + 1]? = some (.cells #[c] v (0, 0)) ∧ W.heap.size = w.heap.size + 3 ∧ Below w.heap.size w W := by
  intro W
  have s1 : (w.alloc (.cells #[a] t)).heap.size = w.heap.size + 1 := by simp
  have s2 : ((w.alloc (.cells #[a] t)).alloc (.cells #[b] u)).heap.size = w.heap.size + 1 + 1 := by simp
  refine ⟨?_, ?_, ?_, by simp [W], ?_⟩
  · exact (Below.heap_alloc _ _ w.heap.size (by omega)).trans ((Below.heap_alloc _ _ w.heap.size (by omega)).trans (heap_alloc_new w _))
  · exact (Below.heap_alloc _ _ (w.heap.size + 1) (by omega)).trans (by rw [← s1]; exact heap_alloc_new (w.alloc (.cells #[a] t)) _)
  · rw [← s2]; exact heap_alloc_new ((w.alloc (.cells #[a] t)).alloc (.cells #[b] u)) _
  · exact (((Below.refl _ _).alloc (Nat.le_refl _) _).alloc (by omega) _).alloc (by omega) _

set_option maxHeartbeats 4000000 in
theorem parse41 (a : Option Addr) (c G n s : Nat) (zs : List Int) (w : World) (hb : n < 2 ∨ (a = some ⟨G, 0, none⟩ ∧ c = n ∧ BRow w (some ⟨G, 0, none⟩) n zs ∧ G < w.heap.size)) (hz : Bytes zs) (hs : 1 ≤ s) (hn : n ≤ 2097152) :
    Calls Tryf.prog 41 #[.slice a n c, .int .i64 s] w fun e w' => ∃ v err, e = .returned (.tuple #[v, err]) ∧ Parsed G n s zs w v err w' := by
  go_enter Tryf.func41, Tryf.ntmps41
  go_wp2_with fail
  refine (newReader_any a n c _).mono ?_
  rintro e wC ⟨rfl, hrC, hbC⟩
  obtain ⟨N0, L0, A0, hs0, b0⟩ := three w (.int .i64 s) (.slice none 0 0) (.slice none 0 0) 3 47 47
  rw [hs0] at hrC hbC ⊢
  have pC := hrC.lt
  have sC := hbC.size
  rw [hs0] at sC
  have N1 := (hbC.block w.heap.size (by omega)).trans N0
  have L1 := (hbC.block (w.heap.size + 1) (by omega)).trans L0
  have A1 := (hbC.block (w.heap.size + 1 + 1) (by omega)).trans A0
  have bC : Below w.heap.size w wC := b0.trans (hbC.mono (by omega))
  clear N0 L0 A0 hbC b0 hs0
  have H1 : Hid _ := N1
  have H2 : Hid _ := L1
  have H3 : Hid _ := A1
  clear N1 L1 A1
  go_wp2_with fail
  obtain ⟨wR, hwR⟩ : ∃ x, x = wC.alloc (.cells #[.pointer (some ⟨w.heap.size + 3, 0, none⟩)] 25) := ⟨_, rfl⟩
  rw [← hwR]
  have bR : Below wC.heap.size wC wR := hwR ▸ (Below.refl _ wC).alloc (Nat.le_refl _) _
  have sR : wR.heap.size = wC.heap.size + 1 := by rw [hwR]; simp
  have N2 := (bR.block w.heap.size (by omega)).trans H1.out
  have L2 := (bR.block (w.heap.size + 1) (by omega)).trans H2.out
  have A2 := (bR.block (w.heap.size + 1 + 1) (by omega)).trans H3.out
  have R2 : wR.heap[wC.heap.size]? = some (.cells #[.pointer (some ⟨w.heap.size + 3, 0, none⟩)] 25 (0, 0)) := hwR ▸ heap_alloc_new wC _
  have r2 : Rd wR (w.heap.size + 3) (.slice a n c) 0 n .nilIface := (bR.block (w.heap.size + 3) (by omega)).trans hrC
  have bR' : Below w.heap.size w wR := bC.trans (bR.mono (by omega))
  have cN : wR.cell? ⟨w.heap.size, 0, none⟩ = some (.int .i64 s) := (cell_of_row wR _ 0 _ 3 (0, 0) N2).trans rfl
  have cR : wR.cell? ⟨wC.heap.size, 0, none⟩ = some (.pointer (some ⟨w.heap.size + 3, 0, none⟩)) := (cell_of_row wR _ 0 _ 25 (0, 0) R2).trans rfl
  have hV : Calls Tryf.prog 45 #[.pointer (some ⟨w.heap.size + 3, 0, none⟩), .func (.func 46) #[] #[.pointer (some ⟨wC.heap.size, 0, none⟩), .pointer (some ⟨w.heap.size, 0, none⟩), .pointer (some ⟨w.heap.size + 1 + 1, 0, none⟩)]] wR fun e w' => e = .returned (.tuple #[]) ∧ Left (w.heap.size + 3) (w.heap.size + 1 + 1) G n s zs (.slice a n c) wR w' := by
    rcases hb with hb | ⟨rfl, rfl, row, hGw⟩
    · exact vec46_short wR r2 A2 (by omega) hb _
    · exact vec46 wR cR cN r2 A2 (by omega) (by omega) (by omega) (by omega) (by omega) (by omega) (by omega) (by omega) (row.below bR') hz hs hn
  refine hV.mono ?_
  rintro e wV ⟨rfl, fo, off, ka, kn, kc, hAV, hrV, hFV, hgV, hbV⟩
  have LV := hFV.heap L2 (by rintro (e | e) <;> omega)
  have cRV := hFV.cell cR (by rintro (e | e) <;> omega)
  have sV := hFV.size
  have FI := finish_s off n fo wV hrV (fun hx => (hgV hx).1) hn
  have bV : Below w.heap.size w wV := bR'.trans ⟨hFV.os, hFV.tape, hFV.output, hFV.size, fun k hk => hFV.block k (by omega) (by rintro (e | e) <;> omega)⟩
  clear hV r2 A2 R2 N2 L2 cN cR hrC
  go_wp2_with fail
  refine FI.mono ?_
  rintro e wX ⟨hoX, ⟨rfl, hoff, rfl⟩ | ⟨pe, f, rfl, hfX, hwhy⟩⟩
  · have FX : Frame (fun i => i = w.heap.size + 3) wV wX := Frame.of_only hoX rfl
    have LX := FX.heap LV (by omega)
    have AX := FX.heap hAV (by omega)
    have cL : wX.cell? ⟨w.heap.size + 1, 0, none⟩ = some (.slice none 0 0) := (cell_of_row wX _ 0 _ 47 (0, 0) LX).trans rfl
    have fL : wX.frozen? ⟨w.heap.size + 1, 0, none⟩ = false := frozen_of_row wX _ 0 _ 47 LX
    have cA : wX.cell? ⟨w.heap.size + 1 + 1, 0, none⟩ = some (.slice ka kn kc) := (cell_of_row wX _ 0 _ 47 (0, 0) AX).trans rfl
    have bX : Below w.heap.size w wX := bV.trans (hoX.below (by omega) bV.size)
    obtain ⟨h1, h2, rvs, hW⟩ := hgV rfl
    have cS : (wX.setCell ⟨w.heap.size + 1, 0, none⟩ (.slice ka kn kc)).cell? ⟨w.heap.size + 1, 0, none⟩ = some (.slice ka kn kc) := (cell_of_row _ _ 0 _ 47 (0, 0) (heap_setCell_same wX _ 0 _ 47 _ LX)).trans rfl
    clear LX AX LV hAV FI
    go_wp2_with fail
    (try simp only [Exit.inBlock, Exit.then])
    refine bodyPost_ret (v := .tuple #[.agg #[.slice ka kn kc], .nilIface]) (by simp [results, Tryf.results41, go_sem, cS]) rfl ?_
    have FL : Frame (fun i => i = w.heap.size + 3 ∨ i = w.heap.size + 1) wV (wX.setCell ⟨w.heap.size + 1, 0, none⟩ (.slice ka kn kc)) := Frame.setCell (S := fun i => i = w.heap.size + 3 ∨ i = w.heap.size + 1) (g := w.heap.size + 1) (FX.mono (fun _ _ hi => Or.inl hi)) (Or.inl (Or.inr rfl)) 0 _
    refine ⟨_, _, rfl, bX.setCell (show w.heap.size ≤ w.heap.size + 1 by omega) _, Or.inl ⟨ka, kn, kc, rvs, rfl, rfl, by omega, ?_⟩⟩
    rw [show n = 2 + lenV zs 0 2 by omega]
    exact (hW.frame FL (by rintro i hi (e | e) <;> omega)).base (by omega)
  · have FX : Frame (fun i => i = w.heap.size + 3) wV wX := Frame.of_only hoX rfl
    have LX := FX.heap LV (by omega)
    have cL : wX.cell? ⟨w.heap.size + 1, 0, none⟩ = some (.slice none 0 0) := (cell_of_row wX _ 0 _ 47 (0, 0) LX).trans rfl
    have fL : wX.frozen? ⟨w.heap.size + 1, 0, none⟩ = false := frozen_of_row wX _ 0 _ 47 LX
    have bX : Below w.heap.size w wX := bV.trans (hoX.below (by omega) bV.size)
    have hW : Why zs s n f := by
      rcases hwhy with rfl | ⟨rfl, h1, rfl⟩
      · exact hbV f rfl
      · obtain ⟨_, h2, rvs, hW⟩ := hgV rfl
        exact Or.inr (Or.inr (Or.inr ⟨by omega, ⟨kn, hW.ok, hW.at'⟩, h2⟩))
    have cS : (wX.setCell ⟨w.heap.size + 1, 0, none⟩ (.slice none 0 0)).cell? ⟨w.heap.size + 1, 0, none⟩ = some (.slice none 0 0) := (cell_of_row _ _ 0 _ 47 (0, 0) (heap_setCell_same wX _ 0 _ 47 _ LX)).trans rfl
    have HL : Hid _ := LX
    clear LX LV hAV FI
    go_wp2_with fail
    (try simp only [Exit.inBlock, Exit.then])
    refine bodyPost_ret (v := .tuple #[.agg #[.slice none 0 0], faultV pe]) (by simp [results, Tryf.results41, go_sem, cS]) rfl ?_
    obtain ⟨t, ht⟩ := hfX
    exact ⟨_, _, rfl, bX.setCell (show w.heap.size ≤ w.heap.size + 1 by omega) _, Or.inr ⟨pe, f, rfl, rfl, ⟨t, (Below.heap_setCell wX _ _ pe (by
      rintro rfl
      have := HL.out
      rw [ht] at this
      simp at this)).trans ht⟩, hW⟩⟩
end Go.Proofs.Qxb6604610aFmt
