/-
  The stages of one kind response, fault or not: Uint32, Uint64, Vector16 over the inner body.
-/
import Derived.Test.Qxb6604610aFmtItem
namespace Go.Proofs.Qxb6604610aFmt
open Go.RowKit Go.Extern.Stop Go.Stop Go.Extern

/-- The reader stands at off, or has met a fault. -/
def RS (w : World) (p : Nat) (bv : Value) (off en : Nat) : Option Nat → Prop
  | none => Rd w p bv off en .nilIface
  | some f => ∃ pe o, Rd w p bv o en (faultV pe) ∧ FaultAt w pe f ∧ pe ≠ p
def stp (off n en : Nat) : Option Nat → Option Nat
  | some f => some f
  | none => if off + n ≤ en then none else some off
theorem stp_none {off n en : Nat} {fo : Option Nat} (h : stp off n en fo = none) : fo = none ∧ off + n ≤ en := by
  cases fo with
  | some f => simp [stp] at h
  | none => simpa [stp] using h
theorem stp_ok {off n en : Nat} (h : off + n ≤ en) : stp off n en none = none := by simp [stp, h]
theorem stp_bad {off n en : Nat} (h : en < off + n) : stp off n en none = some off := by simp [stp]; omega
theorem RS.lt {w : World} {p : Nat} {bv : Value} {off en : Nat} {fo : Option Nat} (h : RS w p bv off en fo) : p < w.heap.size := by
  cases fo with
  | none => exact Rd.lt h
  | some f => obtain ⟨pe, o, h1, _⟩ := h; exact h1.lt
theorem RS.drewN {w : World} {p : Nat} {bv : Value} {off en : Nat} {fo : Option Nat} (h : RS w p bv off en fo) (q : Nat) : RS (w.drewN q) p bv off en fo := by
  cases fo with
  | none => exact h
  | some f => exact h
/-- Where p's block and the fault's block are as before. -/
theorem RS.keep {w w' : World} {p : Nat} {bv : Value} {off en : Nat} {fo : Option Nat} {S : Nat → Prop} (h : RS w p bv off en fo) (hF : Frame S w w') (hp : ¬ S p) (hS : ∀ k cs, w.heap[k]? = some (.cells cs 71 (0, 0)) → ¬ S k) : RS w' p bv off en fo := by
  cases fo with
  | none => exact hF.heap h hp
  | some f =>
    obtain ⟨pe, o, h1, ⟨t, h2⟩, h3⟩ := h
    exact ⟨pe, o, hF.heap h1 hp, ⟨t, hF.heap h2 (hS pe _ h2)⟩, h3⟩

section
variable {p G len cap : Nat} {zs : List Int}

theorem u32_s (off en : Nat) (fo : Option Nat) (w : World) (h : RS w p (.slice (some ⟨G, 0, none⟩) len cap) off en fo) (hGp : G ≠ p) (row : BRow w (some ⟨G, 0, none⟩) len zs) (hz : Bytes zs)
    (hel : en ≤ len) (hlc : len ≤ cap) (hen : en ≤ 2097152) (ho : fo = none → off ≤ en) :
    Calls Tryf.prog 23 #[.pointer (some ⟨p, 0, none⟩)] w fun e w' => ∃ v : Nat, e = .returned (.int .u32 v) ∧ RS w' p (.slice (some ⟨G, 0, none⟩) len cap) (off + 4) en (stp off 4 en fo) ∧ Only p w w' ∧ (stp off 4 en fo = none → v = lenV zs off 4) := by
  cases fo with
  | none =>
    by_cases h4 : off + 4 ≤ en
    · refine (uint32_ok p off en G len cap zs w h hGp row hz hel hlc hen h4).mono ?_
      rintro e w' ⟨rfl, h1, h2⟩
      exact ⟨_, rfl, by rw [stp_ok h4]; exact h1, h2, fun _ => rfl⟩
    · refine (uint32_short p off en _ w h (ho rfl) (by omega) hen).mono ?_
      rintro e w' ⟨rfl, pe, h1, h2, h3, h5⟩
      exact ⟨0, rfl, by rw [stp_bad (by omega)]; exact ⟨pe, _, h1, h2, h3⟩, h5, fun hx => absurd (stp_none hx).2 h4⟩
  | some f =>
    obtain ⟨pe, o, h1, h2, h3⟩ := h
    refine (uint32_err p o en pe _ w h1).mono ?_
    rintro e w' ⟨rfl, rfl⟩
    exact ⟨0, rfl, ⟨pe, o, h1, h2, h3⟩, Only.refl _ _, fun hx => by simp [stp] at hx⟩
theorem u64_s (off en : Nat) (fo : Option Nat) (w : World) (h : RS w p (.slice (some ⟨G, 0, none⟩) len cap) off en fo) (hGp : G ≠ p) (row : BRow w (some ⟨G, 0, none⟩) len zs) (hz : Bytes zs)
    (hel : en ≤ len) (hlc : len ≤ cap) (hen : en ≤ 2097152) (ho : fo = none → off ≤ en) :
    Calls Tryf.prog 24 #[.pointer (some ⟨p, 0, none⟩)] w fun e w' => ∃ v : Nat, e = .returned (.int .u64 v) ∧ RS w' p (.slice (some ⟨G, 0, none⟩) len cap) (off + 8) en (stp off 8 en fo) ∧ Only p w w' ∧ (stp off 8 en fo = none → v = lenV zs off 8) := by
  cases fo with
  | none =>
    by_cases h4 : off + 8 ≤ en
    · refine (uint64_ok p off en G len cap zs w h hGp row hz hel hlc hen h4).mono ?_
      rintro e w' ⟨rfl, h1, h2⟩
      exact ⟨_, rfl, by rw [stp_ok h4]; exact h1, h2, fun _ => rfl⟩
    · refine (uint64_short p off en _ w h (ho rfl) (by omega) hen).mono ?_
      rintro e w' ⟨rfl, pe, h1, h2, h3, h5⟩
      exact ⟨0, rfl, by rw [stp_bad (by omega)]; exact ⟨pe, _, h1, h2, h3⟩, h5, fun hx => absurd (stp_none hx).2 h4⟩
  | some f =>
    obtain ⟨pe, o, h1, h2, h3⟩ := h
    refine (uint64_err p o en pe _ w h1).mono ?_
    rintro e w' ⟨rfl, rfl⟩
    exact ⟨0, rfl, ⟨pe, o, h1, h2, h3⟩, Only.refl _ _, fun hx => by simp [stp] at hx⟩

theorem slice_of_owns {w : World} {base : Nat} {e : TypeId} {size n : Nat} {v : Value} {xs : List Value} (h : w.ownsRow base e size v n xs) : ∃ a c, v = .slice a n c := by
  rcases h.2 with ⟨h1, h2, _⟩ | ⟨g, cap, cur, h1, _⟩
  · exact ⟨none, 0, by first | (subst h1; rfl) | (rw [h1, h2])⟩
  · exact ⟨_, _, h1⟩

variable {R K N : Nat} {kv gv : Value}
theorem vec47_s (pos en s : Nat) (fo : Option Nat) (w : World) (hR : w.cell? ⟨R, 0, none⟩ = some (.pointer (some ⟨p, 0, none⟩))) (hN : w.cell? ⟨N, 0, none⟩ = some (.int .i64 s))
    (h : RS w p (.slice (some ⟨G, 0, none⟩) len cap) (pos + 12) en fo) (hK : w.heap[K]? = some (.cells #[kv, gv, .slice none 0 0] 64 (0, 0))) (hRp : R ≠ p) (hRK : R ≠ K) (hNp : N ≠ p) (hNK : N ≠ K) (hKp : K ≠ p) (hGp : G ≠ p)
    (row : BRow w (some ⟨G, 0, none⟩) len zs) (hz : Bytes zs) (hs : 1 ≤ s) (hb : fo = none → pos + 12 ≤ en) (hel : en ≤ len) (hlc : len ≤ cap) (hen : en ≤ 2097152) :
    Calls Tryf.prog 45 #[.pointer (some ⟨p, 0, none⟩), .func (.func 47) #[] #[.pointer (some ⟨R, 0, none⟩), .pointer (some ⟨K, 0, none⟩), .pointer (some ⟨N, 0, none⟩)]] w fun e w' => e = .returned (.tuple #[]) ∧
      ∃ a n c fo', w'.heap[K]? = some (.cells #[kv, gv, .slice a n c] 64 (0, 0)) ∧ Frame (fun k => k = p ∨ k = K) w w' ∧ RS w' p (.slice (some ⟨G, 0, none⟩) len cap) (pos + 14 + m16 zs pos) en fo' ∧
        (fo' = none → fo = none ∧ ItemOK zs s en pos ∧ w'.ownsRow w.heap.size 22 1 (.slice a n c) (m16 zs pos / s) (repCells G (pos + 14) s (m16 zs pos / s))) ∧ (∀ f, fo' = some f → fo = some f ∨ ItemBad zs s en pos f) := by
  cases fo with
  | some f =>
    obtain ⟨pe, o, h1, h2, h3⟩ := h
    refine (vector16_any p 47 _ w _ (vector_err p o en 2 pe 47 _ _ w h1)).mono ?_
    rintro e w' ⟨rfl, _, rfl⟩
    exact ⟨rfl, _, _, _, some f, hK, Frame.refl _ _, ⟨pe, o, h1, h2, h3⟩, fun hx => by simp at hx, fun f' hf => Or.inl hf⟩
  | none =>
    rcases item_parts zs s en pos with hok | ⟨f, hbad⟩
    · have hd := Nat.div_add_mod (m16 zs pos) s
      rw [hok.2, Nat.mul_comm] at hd
      refine (vec47_ok pos en s (m16 zs pos / s) w hR hN h hK hRp hRK hNp hNK hKp hGp row hz hs (by omega) hok.1 hel hlc hen).mono ?_
      rintro e w' ⟨rfl, rv, h1, h2, h3, h4⟩
      obtain ⟨a, c, rfl⟩ := slice_of_owns h3
      exact ⟨rfl, a, _, c, none, h2, h4, h1, fun _ => ⟨rfl, hok, h3⟩, fun f hf => by simp at hf⟩
    · refine (vec47_bad pos en s f w hR hN h hK hRp hRK hNp hNK hKp hGp row hz hs hbad (hb rfl) hel hlc hen).mono ?_
      rintro e w' ⟨rfl, ⟨pe, o, h1, h2, h3⟩, ⟨a, n, c, h4⟩, h5⟩
      exact ⟨rfl, a, n, c, some f, h4, h5, ⟨pe, o, h1, h2, h3⟩, fun hx => by simp at hx, fun f' hf => Or.inr (by cases hf; exact hbad)⟩
end
end Go.Proofs.Qxb6604610aFmt
