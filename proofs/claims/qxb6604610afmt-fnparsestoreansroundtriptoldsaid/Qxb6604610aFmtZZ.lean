/-
  ZZparseStoreAns (26).
-/
import Derived.Test.Qxb6604610aFmtParse2
namespace Go.Proofs.Qxb6604610aFmt
open Go.RowKit Go.Extern.Stop Go.Stop Go.Extern

/-- How ZZparseStoreAns ends. -/
def Asked (G n s : Nat) (zs : List Int) (w : World) (e : Ending) (w' : World) : Prop :=
  Below w.heap.size w w' ∧ ((∃ a m c rvs, e = .returned (.tuple #[.agg #[.slice a m c], .bool false, .int .i64 (-1)]) ∧ n = 2 + lenV zs 0 2 ∧ Whole G s n zs w.heap.size w' (.slice a m c) m rvs) ∨
    ∃ f : Nat, e = .returned (.tuple #[.agg #[.slice none 0 0], .bool true, .int .i64 f]) ∧ Why zs s n f)

set_option maxHeartbeats 4000000 in
theorem parse26 (a : Option Addr) (c G n s : Nat) (zs : List Int) (w : World) (hb : n < 2 ∨ (a = some ⟨G, 0, none⟩ ∧ c = n ∧ BRow w (some ⟨G, 0, none⟩) n zs ∧ G < w.heap.size)) (hz : Bytes zs) (hs : 1 ≤ s) (hn : n ≤ 2097152) :
    Calls Tryf.prog 26 #[.slice a n c, .int .i64 s] w fun e w' => Asked G n s zs w e w' := by
  have hta := ta_nil
  have htb := ta_some
  have b0 : Below w.heap.size w (w.alloc (.cells #[.slice none 0 0] 47)) := (Below.refl _ _).alloc (Nat.le_refl _) _
  have hP := parse41 a c G n s zs (w.alloc (.cells #[.slice none 0 0] 47)) (hb.imp id (fun ⟨h1, h2, h3, h4⟩ => ⟨h1, h2, h3.below b0, by simp; omega⟩)) hz hs hn
  have h0 := heap_alloc_new w (.cells #[.slice none 0 0] 47)
  have HB : Hid _ := b0
  have H0 : Hid _ := h0
  clear b0 h0
  go_enter Tryf.func26, Tryf.ntmps26
  go_wp2_with fail
  refine hP.mono ?_
  rintro e wP ⟨v, err, rfl, bP, hP2⟩
  obtain hP2 := hP2
  have sP := bP.size
  simp at sP
  rcases hP2 with ⟨ka, m, kc, rvs, rfl, rfl, hn2, hW⟩ | ⟨pe, f, rfl, rfl, ⟨t, hf⟩, hy⟩
  · have L1 := (bP.block w.heap.size (by simp)).trans H0.out
    have bP' := HB.out.trans (bP.mono (by simp))
    clear hP bP
    have L2 : (wP.alloc (.cells #[.slice ka m kc] 47)).heap[w.heap.size]? = some (.cells #[.slice none 0 0] 47 (0, 0)) := (Below.heap_alloc _ _ w.heap.size (by omega)).trans L1
    have cL : (wP.alloc (.cells #[.slice ka m kc] 47)).cell? ⟨w.heap.size, 0, none⟩ = some (.slice none 0 0) := (cell_of_row _ _ 0 _ 47 (0, 0) L2).trans rfl
    have fL : (wP.alloc (.cells #[.slice ka m kc] 47)).frozen? ⟨w.heap.size, 0, none⟩ = false := frozen_of_row _ _ 0 _ 47 L2
    have cS : ((wP.alloc (.cells #[.slice ka m kc] 47)).setCell ⟨w.heap.size, 0, none⟩ (.slice ka m kc)).cell? ⟨w.heap.size, 0, none⟩ = some (.slice ka m kc) := (cell_of_row _ _ 0 _ 47 (0, 0) (heap_setCell_same _ _ 0 _ 47 _ L2)).trans rfl
    have cS' : ((wP.alloc (.cells #[.slice ka m kc] 47)).setCell ⟨w.heap.size, 0, none⟩ (.slice ka m kc)).drew.cell? ⟨w.heap.size, 0, none⟩ = some (.slice ka m kc) := cS
    have FS : Frame (fun i => i = w.heap.size) wP ((wP.alloc (.cells #[.slice ka m kc] 47)).setCell ⟨w.heap.size, 0, none⟩ (.slice ka m kc)).drew := (Frame.setCell (S := fun i => i = w.heap.size) (g := w.heap.size) ((Frame.refl _ wP).alloc _) (Or.inl rfl) 0 _).drew
    have bS : Below w.heap.size w ((wP.alloc (.cells #[.slice ka m kc] 47)).setCell ⟨w.heap.size, 0, none⟩ (.slice ka m kc)).drew := (bP'.trans ⟨FS.os, FS.tape, FS.output, FS.size, fun k hk => FS.block k (by omega) (by omega)⟩)
    have hend : Asked G n s zs w (.returned (.tuple #[.agg #[.slice ka m kc], .bool false, .int .i64 (-1)])) ((wP.alloc (.cells #[.slice ka m kc] 47)).setCell ⟨w.heap.size, 0, none⟩ (.slice ka m kc)).drew :=
      ⟨bS, Or.inl ⟨ka, m, kc, rvs, rfl, hn2, (hW.frame FS (by intro i hi e; simp at hi; omega)).base (by simp)⟩⟩
    have HE : Hid _ := hend
    clear L1 L2 hW hend bS FS hn2 hb
    go_wp2_with fail
    go_region
    go_wp2_with fail
    (try simp only [Exit.inBlock, Exit.then])
    exact bodyPost_ret (v := .tuple #[.agg #[.slice ka m kc], .bool false, .int .i64 (-1)]) (by simp [results, Tryf.results26, go_sem, cS']) rfl HE.out
  · have L1 := (bP.block w.heap.size (by simp)).trans H0.out
    have bP' := HB.out.trans (bP.mono (by simp))
    clear hP bP
    have hpl : pe < wP.heap.size := (Array.getElem?_eq_some_iff.1 hf).1
    have L2 : (wP.alloc (.cells #[.slice none 0 0] 47)).heap[w.heap.size]? = some (.cells #[.slice none 0 0] 47 (0, 0)) := (Below.heap_alloc _ _ w.heap.size (by omega)).trans L1
    have cL : (wP.alloc (.cells #[.slice none 0 0] 47)).cell? ⟨w.heap.size, 0, none⟩ = some (.slice none 0 0) := (cell_of_row _ _ 0 _ 47 (0, 0) L2).trans rfl
    have fL : (wP.alloc (.cells #[.slice none 0 0] 47)).frozen? ⟨w.heap.size, 0, none⟩ = false := frozen_of_row _ _ 0 _ 47 L2
    have cP : (wP.alloc (.cells #[.slice none 0 0] 47)).cell? ⟨pe, 0, none⟩ = some (.int .i64 f) := (cell_of_row _ _ 0 _ 71 (0, 0) ((Below.heap_alloc _ _ pe (by omega)).trans hf)).trans rfl
    have hne : pe ≠ w.heap.size := by
      rintro rfl
      rw [hf] at L1
      simp at L1
    have cS : ((wP.alloc (.cells #[.slice none 0 0] 47)).setCell ⟨w.heap.size, 0, none⟩ (.slice none 0 0)).cell? ⟨w.heap.size, 0, none⟩ = some (.slice none 0 0) := (cell_of_row _ _ 0 _ 47 (0, 0) (heap_setCell_same _ _ 0 _ 47 _ L2)).trans rfl
    have cS' : ((wP.alloc (.cells #[.slice none 0 0] 47)).setCell ⟨w.heap.size, 0, none⟩ (.slice none 0 0)).drew.cell? ⟨w.heap.size, 0, none⟩ = some (.slice none 0 0) := cS
    have FS : Frame (fun i => i = w.heap.size) wP ((wP.alloc (.cells #[.slice none 0 0] 47)).setCell ⟨w.heap.size, 0, none⟩ (.slice none 0 0)).drew := (Frame.setCell (S := fun i => i = w.heap.size) (g := w.heap.size) ((Frame.refl _ wP).alloc _) (Or.inl rfl) 0 _).drew
    have bS : Below w.heap.size w ((wP.alloc (.cells #[.slice none 0 0] 47)).setCell ⟨w.heap.size, 0, none⟩ (.slice none 0 0)).drew := (bP'.trans ⟨FS.os, FS.tape, FS.output, FS.size, fun k hk => FS.block k (by omega) (by omega)⟩)
    have HE : Hid (Asked G n s zs w (.returned (.tuple #[.agg #[.slice none 0 0], .bool true, .int .i64 f])) ((wP.alloc (.cells #[.slice none 0 0] 47)).setCell ⟨w.heap.size, 0, none⟩ (.slice none 0 0)).drew) :=
      ⟨bS, Or.inr ⟨f, rfl, hy⟩⟩
    clear L1 L2 bS FS hb hf hy
    go_wp2_with fail
    go_region
    all_goals go_wp2_with fail
    all_goals (try simp only [Exit.inBlock, Exit.then])
    all_goals exact bodyPost_ret (v := .tuple #[.agg #[.slice none 0 0], .bool true, .int .i64 f]) (by simp [results, Tryf.results26, go_sem, cS']) rfl HE.out
end Go.Proofs.Qxb6604610aFmt
