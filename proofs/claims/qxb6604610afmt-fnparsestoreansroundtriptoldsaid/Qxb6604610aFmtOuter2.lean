/-
  ParseStoreAns$1 (46): the walk.
-/
import Derived.Test.Qxb6604610aFmtOuter
namespace Go.Proofs.Qxb6604610aFmt
open Go.RowKit Go.Extern.Stop Go.Stop Go.Extern

section
variable {p A G R N en s k : Nat} {bv kv : Value} {zs : List Int} {w wr : World} {rvs : Nat → Value}
abbrev wK (wr : World) (m : Nat) : World := (wr.drewN m).alloc (.cells #[.int .u32 0, .int .u64 0, .slice none 0 0] 64)
/-- Behind the block of the kind response. -/
structure St (p R N G K s len : Nat) (zs : List Int) (wr w1 : World) (c0 c1 c2 : Value) : Prop where
  k : w1.heap[K]? = some (.cells #[c0, c1, c2] 64 (0, 0))
  fr : Frame (fun i => i = p) wr w1
  gR : w1.cell? ⟨R, 0, none⟩ = some (.pointer (some ⟨p, 0, none⟩))
  gN : w1.cell? ⟨N, 0, none⟩ = some (.int .i64 s)
  row : BRow w1 (some ⟨G, 0, none⟩) len zs
variable {len K : Nat} {w1 w2 : World} {c0 c1 c2 : Value}
theorem St.call (h : St p R N G K s len zs wr w1 c0 c1 c2) (ho : Only p w1 w2) (hKp : K ≠ p) (hRp : R ≠ p) (hNp : N ≠ p) (hGp : G ≠ p) : St p R N G K s len zs wr w2 c0 c1 c2 := by
  have hF : Frame (fun i => i = p) w1 w2 := Frame.of_only ho rfl
  exact ⟨hF.heap h.k hKp, h.fr.trans hF, hF.cell h.gR hRp, hF.cell h.gN hNp, hF.row h.row hGp⟩
theorem St.frame {d : Value} (h : St p R N G K s len zs wr w1 c0 c1 d) (hF : Frame (fun i => i = p ∨ i = K) w1 w2) (hk : w2.heap[K]? = some (.cells #[c0, c1, c2] 64 (0, 0))) (hK : wr.heap.size ≤ K) (hRp : R ≠ p) (hNp : N ≠ p) (hGp : G ≠ p) (hRK : R ≠ K) (hNK : N ≠ K) (hGK : G ≠ K) :
    St p R N G K s len zs wr w2 c0 c1 c2 :=
  ⟨hk, h.fr.join hF (by rintro i hi (e | e); exact e; omega), hF.cell h.gR (by rintro (e | e); exact hRp e; exact hRK e), hF.cell h.gN (by rintro (e | e); exact hNp e; exact hNK e), hF.row h.row (by rintro (e | e); exact hGp e; exact hGK e)⟩
theorem St.set0 (h : St p R N G K s len zs wr w1 c0 c1 c2) (hK : wr.heap.size ≤ K) (hRK : R ≠ K) (hNK : N ≠ K) (hGK : G ≠ K) (v : Value) : St p R N G K s len zs wr (w1.setCell ⟨K, 0, none⟩ v) v c1 c2 := by
  have hF : Frame (fun i => i = K) w1 (w1.setCell ⟨K, 0, none⟩ v) := Frame.setCell (S := fun i => i = K) (g := K) (Frame.refl _ w1) (Or.inl rfl) 0 v
  exact ⟨heap_setCell_same w1 K 0 _ 64 _ h.k, h.fr.setCell (Or.inr hK) _ _, hF.cell h.gR hRK, hF.cell h.gN hNK, hF.row h.row hGK⟩
theorem St.set1 (h : St p R N G K s len zs wr w1 c0 c1 c2) (hK : wr.heap.size ≤ K) (hRK : R ≠ K) (hNK : N ≠ K) (hGK : G ≠ K) (v : Value) : St p R N G K s len zs wr (w1.setCell ⟨K, 1, none⟩ v) c0 v c2 := by
  have hF : Frame (fun i => i = K) w1 (w1.setCell ⟨K, 1, none⟩ v) := Frame.setCell (S := fun i => i = K) (g := K) (Frame.refl _ w1) (Or.inl rfl) 1 v
  exact ⟨heap_setCell_same w1 K 1 _ 64 _ h.k, h.fr.setCell (Or.inr hK) _ _, hF.cell h.gR hRK, hF.cell h.gN hNK, hF.row h.row hGK⟩
theorem St.rs {off : Nat} {fo : Option Nat} (h : St p R N G K s len zs wr w1 c0 c1 c2) (hr : RS w1 p bv off en fo) (hKp : K ≠ p) (j : Nat) (v : Value) : RS (w1.setCell ⟨K, j, none⟩ v) p bv off en fo := by
  have hF : Frame (fun i => i = K) w1 (w1.setCell ⟨K, j, none⟩ v) := Frame.setCell (S := fun i => i = K) (g := K) (Frame.refl _ w1) (Or.inl rfl) j v
  refine hr.keep hF (fun e => hKp e.symm) ?_
  rintro i cs hi rfl
  rw [h.k] at hi
  simp at hi
theorem St.cells (h : St p R N G K s len zs wr w1 c0 c1 c2) : w1.cell? ⟨K, 0, none⟩ = some c0 ∧ w1.cell? ⟨K, 1, none⟩ = some c1 ∧ w1.cell? ⟨K, 2, none⟩ = some c2 ∧ w1.frozen? ⟨K, 0, none⟩ = false ∧ w1.frozen? ⟨K, 1, none⟩ = false :=
  ⟨(kcell h.k).1, (kcell h.k).2.1, (kcell h.k).2.2.1, (kcell h.k).2.2.2.1 0, (kcell h.k).2.2.2.1 1⟩
end

theorem stp_item {zs : List Int} {s en pos f : Nat} (h : stp (pos + 4) 8 en (stp pos 4 en none) = some f) : ItemBad zs s en pos f := by
  by_cases h4 : pos + 4 ≤ en
  · rw [stp_ok h4] at h
    by_cases h8 : pos + 4 + 8 ≤ en
    · rw [stp_ok h8] at h
      simp at h
    · rw [stp_bad (by omega)] at h
      simp at h
      exact Or.inr (Or.inl ⟨h4, by omega, h.symm⟩)
  · rw [stp_bad (by omega)] at h
    simp [stp] at h
    exact Or.inl ⟨by omega, h.symm⟩
theorem news3 (w : World) (a b c : Value) (t : TypeId) : ∀ j u, [a, b, c][j]? = some u → (w.alloc (.cells #[a, b, c] t)).cell? ((⟨w.heap.size, 0, none⟩ : Addr).add j) = some u := fun j u h => World.news_of_block (heap_alloc_new w (.cells #[a, b, c] t)) j u (by simpa using h)
theorem one3 {x y : Nat} {a : Option Addr} {n c : Nat} : ∀ u ∈ [Value.int .u32 (x : Nat), .int .u64 (y : Nat), .slice a n c], u.oneCell' = true := by
  intro u hu
  simp at hu
  rcases hu with rfl | rfl | rfl <;> rfl

set_option maxHeartbeats 4000000 in
theorem body46 (R A N p G len cap en s : Nat) (zs : List Int) (w : World) (hR : w.cell? ⟨R, 0, none⟩ = some (.pointer (some ⟨p, 0, none⟩))) (hN : w.cell? ⟨N, 0, none⟩ = some (.int .i64 s))
    (h : Rd w p (.slice (some ⟨G, 0, none⟩) len cap) 2 en .nilIface) (hA : w.heap[A]? = some (.cells #[.slice none 0 0] 47 (0, 0))) (hRp : R ≠ p) (hRA : R ≠ A) (hNp : N ≠ p) (hNA : N ≠ A) (hAp : A ≠ p) (hGp : G ≠ p) (hGA : G ≠ A) (hGw : G < w.heap.size)
    (row : BRow w (some ⟨G, 0, none⟩) len zs) (hz : Bytes zs) (hs : 1 ≤ s) (h2 : 2 ≤ en) (hel : en ≤ len) (hlc : len ≤ cap) (hen : en ≤ 2097152) :
    Calls Tryf.prog 46 #[.pointer (some ⟨R, 0, none⟩), .pointer (some ⟨N, 0, none⟩), .pointer (some ⟨A, 0, none⟩)] w fun e w' => e = .returned (.tuple #[]) ∧
      ((∃ k kv rvs, posK zs k = en ∧ Inv46 p A G (.slice (some ⟨G, 0, none⟩) len cap) en s zs w w' k kv rvs) ∨ ∃ f, Bad46 p A (.slice (some ⟨G, 0, none⟩) len cap) en s zs w w' f) := by
  obtain ⟨i0, hi, hz0, hz1, hz2⟩ := info_parts Tryf.info64
  have hpw := h.lt
  have hAw := (Array.getElem?_eq_some_iff.1 hA).1
  have hRw := World.block_lt_of_cell? _ _ hR
  have hNw := World.block_lt_of_cell? _ _ hN
  have H0 : Inv46 p A G (.slice (some ⟨G, 0, none⟩) len cap) en s zs w w 0 (.slice none 0 0) (fun _ => .slice none 0 0) :=
    ⟨h, hA, World.ownsRow_nil _ _ _ _, fun i hi => by omega, fun i hi => by omega, h2, Frame.refl _ _⟩
  have HR : Hid _ := hR
  have HN : Hid _ := hN
  have HW : Hid _ := row
  clear h hA hR hN row
  go_enter Tryf.func46, Tryf.ntmps46
  go_wp2_with fail
  go_loopg [] (en + 2) (fun kx wr => (∃ (k : Nat) (kv : Value) (rvs : Nat → Value), en + 1 - k < kx ∧ Inv46 p A G (.slice (some ⟨G, 0, none⟩) len cap) en s zs w wr k kv rvs) ∨ ∃ f, Bad46 p A (.slice (some ⟨G, 0, none⟩) len cap) en s zs w wr f)
  case atStart => exact Or.inl ⟨0, _, _, by omega, H0⟩
  case round =>
    clear H0
    rcases hrel with ⟨k, kv, rvs, hgk, hI⟩ | ⟨f, hB⟩
    · have hf := hI.fr
      have hr := hI.rd
      have hfs := hf.size
      have hpk := posK_ge zs k
      have hle := hI.le
      have gR := hf.cell HR.out (by rintro (h | h); exact hRp h; exact hRA h)
      have hM := more_ok p (posK zs k) en _ wr hr
      by_cases hlt : posK zs k < en
      · rw [decide_eq_true hlt] at hM
        have hKp : wr.heap.size ≠ p := by omega
        have HS0 : Hid (∀ m, St p R N G wr.heap.size s len zs wr (wK wr m) (.int .u32 0) (.int .u64 0) (.slice none 0 0)) := fun m =>
          ⟨heap_alloc_new (wr.drewN m) _, ((Frame.refl _ wr).drewN m).alloc _, by have := ((Frame.refl (fun _ => False) wr).drewN m).alloc (.cells #[.int .u32 0, .int .u64 0, .slice none 0 0] 64); exact this.cell gR id,
            by have := ((Frame.refl (fun _ => False) wr).drewN m).alloc (.cells #[.int .u32 0, .int .u64 0, .slice none 0 0] 64); exact this.cell (hf.cell HN.out (by rintro (h | h); exact hNp h; exact hNA h)) id,
            by have := ((Frame.refl (fun _ => False) wr).drewN m).alloc (.cells #[.int .u32 0, .int .u64 0, .slice none 0 0] 64); exact this.row (hf.row HW.out (by rintro (h | h); exact hGp h; exact hGA h)) id⟩
        have HRD : Hid (∀ m, RS (wK wr m) p (.slice (some ⟨G, 0, none⟩) len cap) (posK zs k) en none) := fun m => Rd.alloc (hr.drewN m) _
        have HI : Hid (Inv46 p A G (.slice (some ⟨G, 0, none⟩) len cap) en s zs w wr k kv rvs) := hI
        clear hI hr
        have hRK : R ≠ wr.heap.size := by omega
        have hNK : N ≠ wr.heap.size := by omega
        have hGK : G ≠ wr.heap.size := by omega
        go_wp2_with (first
          | (go_at_call 15; refine hM.mono ?_; rintro e w' ⟨rfl, q, rfl⟩; have gR0 := (HS0.out q).gR; dsimp only [wK] at gR0)
          | (go_at_call 23; refine (u32_s (posK zs k) en none _ (HRD.out q) hGp (HS0.out q).row hz hel hlc hen (fun _ => by omega)).mono ?_; rintro e w1 ⟨v1, rfl, hr1, ho1, hv1⟩
             have S1 := (HS0.out q).call ho1 hKp hRp hNp hGp; obtain ⟨k10, k11, k12, f10, f11⟩ := S1.cells
             have S1' := S1.set0 (Nat.le_refl _) hRK hNK hGK (.int .u32 v1); have hr1' := S1.rs hr1 hKp 0 (.int .u32 v1); have gR1 := S1'.gR; clear S1 hr1)
          | (go_at_call 24; refine (u64_s (posK zs k + 4) en _ _ hr1' hGp S1'.row hz hel hlc hen (fun hx => by have := (stp_none hx).2; omega)).mono ?_; rintro e w2 ⟨v2, rfl, hr2, ho2, hv2⟩
             have S2 := S1'.call ho2 hKp hRp hNp hGp; obtain ⟨k20, k21, k22, f20, f21⟩ := S2.cells
             have S2' := S2.set1 (Nat.le_refl _) hRK hNK hGK (.int .u64 v2); have hr2' := S2.rs hr2 hKp 1 (.int .u64 v2); have gR2 := S2'.gR; clear S2 hr2 S1' hr1'))
        have e12 : posK zs k + 4 + 8 = posK zs k + 12 := by omega
        first | rw [e12] at hr2' | skip
        refine (vec47_s (posK zs k) en s _ _ gR2 S2'.gN hr2' S2'.k hRp hRK hNp hNK hKp hGp S2'.row hz hs (fun hx => by have := (stp_none hx).2; omega) hel hlc hen).mono ?_
        rintro e w3 ⟨rfl, aa, an, ac, fo3, hk3, hF3, hr3, hok3, hbad3⟩
        have S3 := S2'.frame hF3 hk3 (Nat.le_refl _) hRp hNp hGp hRK hNK hGK
        obtain ⟨k30, k31, k32, f30, f31⟩ := S3.cells
        have F13 := S3.fr
        have hs13 := F13.size
        have hown3 := F13.owns HI.out.own (fun i hi e => by have := (HI.out.own.lt i hi).1; omega)
        have hA3 : w3.cell? ⟨A, 0, none⟩ = some kv := by rw [cell_of_row w3 A 0 _ 47 (0, 0) (F13.heap HI.out.a hAp)]; rfl
        have hs23 : wr.heap.size ≤ w2.heap.size := by have := S2'.fr.size; simpa using this
        go_wp2_with (refine wpList_append_lies _ rfl (.tmp 16) (.tmp 18) 45 rfl w.heap.size 64 i0 _ 3 40 Tryf.underlying45 hi hz0 hz1 hz2 rfl (by decide) kv k _ rfl (hown3.alloc _) ⟨w3.heap.size, 0, none⟩ 1 1 [.int .u32 v1, .int .u64 v2, .slice aa an ac] rfl rfl (news3 _ _ _ _ _) one3 (by omega) (by unfold maxLen; omega) (by omega) (by simp; omega) (w3.heap.size + 1) (by simp) ?_; intro g cp w5 hown5 hgr hlie hlt5; have hA5 := (frame36 F13 HI.out hpw hAw hAp hgr kv).2.2.1; have cA5 : w5.cell? ⟨A, 0, none⟩ = some kv := (cell_of_row w5 A 0 _ 47 (0, 0) hA5).trans rfl; have fA5 : w5.frozen? ⟨A, 0, none⟩ = false := frozen_of_row w5 A 0 _ 47 hA5)
        cases fo3 with
        | none =>
          obtain ⟨hfo2, hok, hrow⟩ := hok3 rfl
          have hfo1 := (stp_none hfo2).1
          rw [hv1 hfo1, hv2 hfo2] at hown5
          go_roundg (en + 1 - k)
          case rel => exact Or.inl ⟨k + 1, _, _, by omega, good46 F13 HI.out hpw hAw hAp hgr hr3 hok (ownsRow_base hrow (by simp; omega)) hown5⟩
          case measure => omega
        | some f =>
          have hib : ItemBad zs s en (posK zs k) f := by
            rcases hbad3 f rfl with hx | hx
            · exact stp_item hx
            · exact hx
          go_roundg (gk - 1)
          case rel => exact Or.inr ⟨f, bad46 F13 HI.out hpw hAw hAp hgr ⟨_, hr3⟩ hlt hib⟩
          case measure => omega
      · rw [decide_eq_false hlt] at hM
        go_wp2_with (go_at_call 15; refine hM.mono ?_; rintro e w' ⟨rfl, q, rfl⟩)
        go_end0
        exact ⟨rfl, Or.inl ⟨k, kv, rvs, by omega, hI.drewN q⟩⟩
    · obtain ⟨pe, off, hr, hfl, hpe⟩ := hB.rd
      have gR := hB.fr.cell HR.out (by rintro (h | h); exact hRp h; exact hRA h)
      have hM := more_err p off en pe _ wr hr
      go_wp2_with (go_at_call 15; refine hM.mono ?_; rintro e w' ⟨rfl, q, rfl⟩)
      go_end0
      exact ⟨rfl, Or.inr ⟨f, hB.drewN q⟩⟩
end Go.Proofs.Qxb6604610aFmt
