/-
  The plain encoding of a StoreAns, and what the parser's own words say of it. No Go in sight.
-/
import Derived.Test.Qxb6604610aFmtParse
namespace Go.Proofs.Qxb6604610aFmt
open Go.RowKit Go.Extern.Stop Go.Stop Go.Extern

/-- v's last k bytes, the greatest first. -/
def be (v : Nat) : Nat → List Int
  | 0 => []
  | k + 1 => be (v / 256) k ++ [((v % 256 : Nat) : Int)]
theorem be_length (v k : Nat) : (be v k).length = k := by
  induction k generalizing v with
  | zero => rfl
  | succ k ih => simp [be, ih]
theorem getD_left (A B : List Int) (x : Nat) (h : x < A.length) : (A ++ B).getD x 0 = A.getD x 0 := by
  simp [List.getD_eq_getElem?_getD, List.getElem?_append_left h]
theorem getD_right (A B : List Int) (x l : Nat) (h : A.length = l) : (A ++ B).getD (l + x) 0 = B.getD x 0 := by
  simp [List.getD_eq_getElem?_getD, List.getElem?_append_right (show A.length ≤ l + x by omega), h]
theorem be_bytes (v k : Nat) : ∀ x, x ∈ be v k → 0 ≤ x ∧ x ≤ 255 := by
  induction k generalizing v with
  | zero => intro x hx; cases hx
  | succ k ih =>
    intro x hx
    rcases List.mem_append.1 hx with h | h
    · exact ih _ x h
    · have : x = ((v % 256 : Nat) : Int) := by simpa using h
      subst this
      have := Nat.mod_lt v (show 0 < 256 by omega)
      omega
theorem lenV_be (zs : List Int) (off k : Nat) : ∀ v, (∀ j, j < k → zs.getD (off + j) 0 = (be v k).getD j 0) → lenV zs off k = v % 256 ^ k := by
  induction k with
  | zero => intro v _; simp [lenV, Nat.mod_one]
  | succ k ih =>
    intro v h
    have h1 : lenV zs off k = v / 256 % 256 ^ k := ih (v / 256) (fun j hj => by
      rw [h j (by omega)]
      exact getD_left _ _ _ (by rw [be_length]; exact hj))
    have h2 : zs.getD (off + k) 0 = ((v % 256 : Nat) : Int) := by
      rw [h k (Nat.lt_succ_self k)]
      exact getD_right (be (v / 256) k) _ 0 k (be_length _ _)
    show lenV zs off k * 256 + (zs.getD (off + k) 0).toNat = _
    rw [h1, h2, Nat.pow_succ, Nat.mul_comm (256 ^ k) 256, Nat.mod_mul, Int.toNat_natCast]
    omega
theorem be_at2 (v : Nat) (h : v ≤ 65535) : (be v 2).getD 0 0 = ((v / 256 : Nat) : Int) ∧ (be v 2).getD 1 0 = ((v % 256 : Nat) : Int) := by
  refine ⟨?_, rfl⟩
  show ((v / 256 % 256 : Nat) : Int) = _
  rw [Nat.mod_eq_of_lt (by omega)]
theorem be_at4 (v : Nat) : (be v 4).getD 0 0 = ((v / 16777216 % 256 : Nat) : Int) ∧ (be v 4).getD 1 0 = ((v / 65536 % 256 : Nat) : Int) ∧ (be v 4).getD 2 0 = ((v / 256 % 256 : Nat) : Int) ∧ (be v 4).getD 3 0 = ((v % 256 : Nat) : Int) := by
  refine ⟨?_, ?_, ?_, rfl⟩
  · show ((v / 256 / 256 / 256 % 256 : Nat) : Int) = _
    rw [Nat.div_div_eq_div_mul, Nat.div_div_eq_div_mul]
  · show ((v / 256 / 256 % 256 : Nat) : Int) = _
    rw [Nat.div_div_eq_div_mul]
  · rfl
theorem be_at (v k : Nat) : ∀ j, j < k → (be v k).getD j 0 = ((v / 256 ^ (k - 1 - j) % 256 : Nat) : Int) := by
  induction k generalizing v with
  | zero => intro j hj; omega
  | succ k ih =>
    intro j hj
    by_cases e : j = k
    · subst e
      rw [show j + 1 - 1 - j = 0 by omega, Nat.pow_zero, Nat.div_one]
      exact getD_right (be (v / 256) j) _ 0 j (be_length _ _)
    · rw [show (be v (k + 1)) = be (v / 256) k ++ [((v % 256 : Nat) : Int)] from rfl, getD_left _ _ _ (by rw [be_length]; omega), ih _ j (by omega), Nat.div_div_eq_div_mul, show k + 1 - 1 - j = (k - 1 - j) + 1 by omega, Nat.pow_succ, Nat.mul_comm]

/-- The replicas' bytes, one behind the other. -/
def repB (s : Nat) (Z : Nat → List Int) : Nat → List Int
  | 0 => []
  | j + 1 => repB s Z j ++ (Z j).take s
theorem repB_length (s : Nat) (Z : Nat → List Int) : ∀ m, (∀ j, j < m → s ≤ (Z j).length) → (repB s Z m).length = m * s := by
  intro m
  induction m with
  | zero => intro _; simp [repB]
  | succ m ih =>
    intro h
    rw [repB, List.length_append, ih (fun j hj => h j (by omega)), List.length_take, Nat.min_eq_left (h m (by omega)), Nat.add_mul, Nat.one_mul]
theorem take_getD (Z : List Int) (s k : Nat) (h : k < s) : (Z.take s).getD k 0 = Z.getD k 0 := by
  simp [List.getD_eq_getElem?_getD, h]
theorem repB_at (s : Nat) (Z : Nat → List Int) : ∀ m, (∀ j, j < m → s ≤ (Z j).length) → ∀ j, j < m → ∀ k, k < s → (repB s Z m).getD (j * s + k) 0 = (Z j).getD k 0 := by
  intro m
  induction m with
  | zero => intro _ j hj; omega
  | succ m ih =>
    intro h j hj k hk
    have hl := repB_length s Z m (fun j hj => h j (by omega))
    by_cases e : j = m
    · subst e
      rw [repB, getD_right _ _ _ _ hl, take_getD _ _ _ hk]
    · have : (j + 1) * s ≤ m * s := Nat.mul_le_mul_right s (by omega)
      rw [Nat.add_mul, Nat.one_mul] at this
      rw [repB, getD_left _ _ _ (by omega)]
      exact ih (fun j hj => h j (by omega)) j (by omega) k hk
/-- One kind response. -/
def itemB (K G m s : Nat) (Z : Nat → List Int) : List Int := be K 4 ++ (be G 8 ++ (be (m * s) 2 ++ repB s Z m))
theorem itemB_length (K G m s : Nat) (Z : Nat → List Int) (h : ∀ j, j < m → s ≤ (Z j).length) : (itemB K G m s Z).length = 14 + m * s := by
  simp only [itemB, List.length_append, be_length, repB_length s Z m h]; omega
/-- Where the i-th kind response starts, behind the head. -/
def sumO (N : Nat → Nat) (s : Nat) : Nat → Nat
  | 0 => 0
  | i + 1 => sumO N s i + (14 + N i * s)
theorem sumO_le (N : Nat → Nat) (s : Nat) {i n : Nat} (h : i ≤ n) : sumO N s i ≤ sumO N s n := by
  induction n with
  | zero => obtain rfl : i = 0 := by omega
            exact Nat.le_refl _
  | succ n ih =>
    by_cases e : i = n + 1
    · subst e; exact Nat.le_refl _
    · have := ih (by omega)
      simp only [sumO]; omega
theorem sumO_lt (N : Nat → Nat) (s : Nat) {i n : Nat} (h : i < n) : sumO N s i + (14 + N i * s) ≤ sumO N s n := sumO_le N s (i := i + 1) h
theorem sumO_ge (N : Nat → Nat) (s n : Nat) : 14 * n ≤ sumO N s n := by
  induction n with
  | zero => exact Nat.le_refl _
  | succ n ih => simp only [sumO]; omega

def encB (O s : Nat) (K G N : Nat → Nat) (Z : Nat → Nat → List Int) : Nat → List Int
  | 0 => be O 2
  | i + 1 => encB O s K G N Z i ++ itemB (K i) (G i) (N i) s (Z i)
theorem encB_length (O s : Nat) (K G N : Nat → Nat) (Z : Nat → Nat → List Int) : ∀ n, (∀ i, i < n → ∀ j, j < N i → s ≤ (Z i j).length) → (encB O s K G N Z n).length = 2 + sumO N s n := by
  intro n
  induction n with
  | zero => intro _; exact be_length _ _
  | succ n ih =>
    intro h
    rw [encB, List.length_append, ih (fun i hi => h i (by omega)), itemB_length _ _ _ _ _ (h n (by omega)), sumO]
    omega
theorem encB_item (O s : Nat) (K G N : Nat → Nat) (Z : Nat → Nat → List Int) (n i : Nat) (h : i < n) : ∃ r, encB O s K G N Z n = encB O s K G N Z i ++ (itemB (K i) (G i) (N i) s (Z i) ++ r) := by
  induction n with
  | zero => omega
  | succ n ih =>
    by_cases e : i = n
    · subst e; exact ⟨[], by simp [encB]⟩
    · obtain ⟨r, hr⟩ := ih (by omega)
      exact ⟨r ++ itemB (K n) (G n) (N n) s (Z n), by rw [encB, hr]; simp⟩
theorem encB_head (O s : Nat) (K G N : Nat → Nat) (Z : Nat → Nat → List Int) (n : Nat) : ∃ r, encB O s K G N Z n = be O 2 ++ r := by
  induction n with
  | zero => exact ⟨[], by simp [encB]⟩
  | succ n ih => obtain ⟨r, hr⟩ := ih; exact ⟨r ++ itemB (K n) (G n) (N n) s (Z n), by rw [encB, hr]; simp⟩
theorem bytes_of_mem {zs : List Int} (h : ∀ x, x ∈ zs → 0 ≤ x ∧ x ≤ 255) : Bytes zs := by
  intro i
  rcases Nat.lt_or_ge i zs.length with hi | hi
  · rw [List.getD_eq_getElem?_getD, List.getElem?_eq_getElem hi]; exact h _ (List.getElem_mem hi)
  · rw [List.getD_eq_getElem?_getD, List.getElem?_eq_none hi]; simp
theorem bytes_mem {zs : List Int} (h : Bytes zs) : ∀ x, x ∈ zs → 0 ≤ x ∧ x ≤ 255 := by
  intro x hx
  obtain ⟨i, hi, rfl⟩ := List.getElem_of_mem hx
  have := h i
  rwa [List.getD_eq_getElem?_getD, List.getElem?_eq_getElem hi] at this

/-- zs is the plain encoding of n kind responses, t bytes of T behind it. -/
structure Enc (zs : List Int) (n s t : Nat) (K G N : Nat → Nat) (Z : Nat → Nat → List Int) (T : List Int) : Prop where
  len : zs.length = 2 + sumO N s n + t
  bytes : Bytes zs
  head : ∀ j, j < 2 → zs.getD (0 + j) 0 = (be (sumO N s n) 2).getD j 0
  kind : ∀ i, i < n → ∀ j, j < 4 → zs.getD (2 + sumO N s i + j) 0 = (be (K i) 4).getD j 0
  gen : ∀ i, i < n → ∀ j, j < 8 → zs.getD (2 + sumO N s i + 4 + j) 0 = (be (G i) 8).getD j 0
  num : ∀ i, i < n → ∀ j, j < 2 → zs.getD (2 + sumO N s i + 12 + j) 0 = (be (N i * s) 2).getD j 0
  rep : ∀ i, i < n → ∀ j, j < N i → ∀ k, k < s → zs.getD (2 + sumO N s i + 14 + j * s + k) 0 = (Z i j).getD k 0
  tail : ∀ k, k < t → zs.getD (2 + sumO N s n + k) 0 = T.getD k 0

theorem enc_exists (n s t : Nat) (K G N : Nat → Nat) (Z : Nat → Nat → List Int) (T : List Int) (hZ : ∀ i, i < n → ∀ j, j < N i → s ≤ (Z i j).length) (hB : ∀ i, i < n → ∀ j, j < N i → Bytes (Z i j)) (hT : t ≤ T.length) (hTB : Bytes T) :
    ∃ zs, Enc zs n s t K G N Z T := by
  have hlen := encB_length (sumO N s n) s K G N Z n hZ
  have at' : ∀ i, i < n → ∃ r, ∀ x, (encB (sumO N s n) s K G N Z n ++ T.take t).getD (2 + sumO N s i + x) 0 = (itemB (K i) (G i) (N i) s (Z i) ++ r).getD x 0 := by
    intro i hi
    obtain ⟨r, hr⟩ := encB_item (sumO N s n) s K G N Z n i hi
    refine ⟨r ++ T.take t, fun x => ?_⟩
    have hl := encB_length (sumO N s n) s K G N Z i (fun i' h' => hZ i' (by omega))
    rw [hr, List.append_assoc, getD_right _ _ _ _ hl, List.append_assoc]
  refine ⟨encB (sumO N s n) s K G N Z n ++ T.take t, ?_, ?_, ?_, ?_, ?_, ?_, ?_, ?_⟩
  · rw [List.length_append, hlen, List.length_take, Nat.min_eq_left hT]
  · refine bytes_of_mem fun x hx => ?_
    rcases List.mem_append.1 hx with h | h
    · have : ∀ m, m ≤ n → ∀ x, x ∈ encB (sumO N s n) s K G N Z m → 0 ≤ x ∧ x ≤ 255 := by
        intro m
        induction m with
        | zero => intro _ x hx; exact be_bytes _ _ x hx
        | succ m ih =>
          intro hm x hx
          rcases List.mem_append.1 hx with h | h
          · exact ih (by omega) x h
          · rcases List.mem_append.1 h with h | h
            · exact be_bytes _ _ x h
            rcases List.mem_append.1 h with h | h
            · exact be_bytes _ _ x h
            rcases List.mem_append.1 h with h | h
            · exact be_bytes _ _ x h
            have : ∀ c, c ≤ N m → ∀ x, x ∈ repB s (Z m) c → 0 ≤ x ∧ x ≤ 255 := by
              intro c
              induction c with
              | zero => intro _ x hx; cases hx
              | succ c ih2 =>
                intro hc x hx
                rcases List.mem_append.1 hx with h | h
                · exact ih2 (by omega) x h
                · exact bytes_mem (hB m (by omega) c (by omega)) x (List.mem_of_mem_take h)
            exact this _ (Nat.le_refl _) x h
      exact this n (Nat.le_refl _) x h
    · exact bytes_mem hTB x (List.mem_of_mem_take h)
  · intro j hj
    obtain ⟨r, hr⟩ := encB_head (sumO N s n) s K G N Z n
    rw [Nat.zero_add, hr, List.append_assoc]
    exact getD_left _ _ _ (by rw [be_length]; exact hj)
  · intro i hi j hj
    obtain ⟨r, hr⟩ := at' i hi
    rw [hr j, itemB, List.append_assoc, getD_left _ _ _ (by rw [be_length]; exact hj)]
  · intro i hi j hj
    obtain ⟨r, hr⟩ := at' i hi
    rw [Nat.add_assoc, hr (4 + j), itemB, List.append_assoc, getD_right _ _ _ 4 (be_length _ _), List.append_assoc, getD_left _ _ _ (by rw [be_length]; exact hj)]
  · intro i hi j hj
    obtain ⟨r, hr⟩ := at' i hi
    rw [Nat.add_assoc, hr (12 + j), itemB, List.append_assoc, show 12 + j = 4 + (8 + j) by omega, getD_right _ _ _ 4 (be_length _ _), List.append_assoc, getD_right _ _ _ 8 (be_length _ _), List.append_assoc, getD_left _ _ _ (by rw [be_length]; exact hj)]
  · intro i hi j hj k hk
    obtain ⟨r, hr⟩ := at' i hi
    have hl := repB_length s (Z i) (N i) (hZ i hi)
    have : (j + 1) * s ≤ N i * s := Nat.mul_le_mul_right s hj
    rw [Nat.add_mul, Nat.one_mul] at this
    rw [show 2 + sumO N s i + 14 + j * s + k = 2 + sumO N s i + (4 + (8 + (2 + (j * s + k)))) by omega, hr, itemB, List.append_assoc, getD_right _ _ _ 4 (be_length _ _), List.append_assoc, getD_right _ _ _ 8 (be_length _ _), List.append_assoc, getD_right _ _ _ 2 (be_length _ _), getD_left _ _ _ (by omega)]
    exact repB_at s (Z i) (N i) (hZ i hi) j hj k hk
  · intro k hk
    rw [getD_right _ _ _ _ hlen, take_getD _ _ _ hk]

section
variable {zs : List Int} {n s t : Nat} {K G N : Nat → Nat} {Z : Nat → Nat → List Int} {T : List Int}
theorem Enc.outer (h : Enc zs n s t K G N Z T) (ho : sumO N s n ≤ 65535) : lenV zs 0 2 = sumO N s n := by
  rw [lenV_be zs 0 2 _ h.head]; exact Nat.mod_eq_of_lt (by omega)
theorem Enc.inner (h : Enc zs n s t K G N Z T) (ho : sumO N s n ≤ 65535) {i : Nat} (hi : i < n) : m16 zs (2 + sumO N s i) = N i * s := by
  have := sumO_lt N s hi
  rw [m16, lenV_be zs _ 2 _ (h.num i hi)]; exact Nat.mod_eq_of_lt (by omega)
theorem Enc.kinds (h : Enc zs n s t K G N Z T) {i : Nat} (hi : i < n) (hK : K i < 4294967296) : lenV zs (2 + sumO N s i) 4 = K i := by
  rw [lenV_be zs _ 4 _ (h.kind i hi)]; exact Nat.mod_eq_of_lt (by omega)
theorem Enc.gens (h : Enc zs n s t K G N Z T) {i : Nat} (hi : i < n) (hG : G i < 18446744073709551616) : lenV zs (2 + sumO N s i + 4) 8 = G i := by
  rw [lenV_be zs _ 8 _ (h.gen i hi)]; exact Nat.mod_eq_of_lt (by omega)
theorem Enc.pos (h : Enc zs n s t K G N Z T) (ho : sumO N s n ≤ 65535) {i : Nat} (hi : i ≤ n) : posK zs i = 2 + sumO N s i := by
  induction i with
  | zero => rfl
  | succ i ih => rw [posK, ih (by omega), h.inner ho (by omega), sumO]; omega
theorem posK_lt (zs : List Int) {i j : Nat} (h : i < j) : posK zs i < posK zs j := by
  induction j with
  | zero => omega
  | succ j ih =>
    by_cases e : i = j
    · subst e; rw [posK]; omega
    · have := ih (by omega); rw [posK]; omega
theorem Enc.count (h : Enc zs n s t K G N Z T) (ho : sumO N s n ≤ 65535) (hs : 1 ≤ s) {i : Nat} (hi : i < n) : cntK zs s i = N i := by
  rw [cntK, h.pos ho (by omega), h.inner ho hi]; exact Nat.mul_div_cancel _ hs
theorem Enc.item (h : Enc zs n s t K G N Z T) (ho : sumO N s n ≤ 65535) {i : Nat} (hi : i < n) : ItemOK zs s (2 + sumO N s n) (posK zs i) := by
  have := sumO_lt N s hi
  rw [ItemOK, h.pos ho (by omega), h.inner ho hi]
  exact ⟨by omega, Nat.mul_mod_left _ _⟩
theorem Enc.why (h : Enc zs n s t K G N Z T) (ho : sumO N s n ≤ 65535) {f : Nat} (hy : Why zs s (2 + sumO N s n + t) f) : f = 2 + sumO N s n ∧ 0 < t := by
  have e := h.outer ho
  rcases hy with ⟨h1, _⟩ | ⟨_, h2, _⟩ | ⟨_, k, _, h3, h4⟩ | ⟨h1, _, h3⟩
  · omega
  · omega
  · exfalso
    rw [e] at h3 h4
    rcases Nat.lt_or_ge k n with hk | hk
    · obtain ⟨i1, i2⟩ := h.item ho hk
      unfold ItemBad at h4
      rcases h4 with h | h | h | h | h <;> omega
    · have hn := h.pos ho (Nat.le_refl n)
      rcases Nat.lt_or_ge n k with hk' | hk'
      · have := posK_lt zs hk'; omega
      · obtain rfl : k = n := by omega
        omega
  · exact ⟨by omega, by omega⟩
theorem Enc.many (h : Enc zs n s t K G N Z T) (ho : sumO N s n ≤ 65535) {m : Nat} (hm : posK zs m = 2 + sumO N s n) : m = n := by
  have hn := h.pos ho (Nat.le_refl n)
  rcases Nat.lt_trichotomy m n with h1 | h1 | h1
  · have := posK_lt zs h1; omega
  · exact h1
  · have := posK_lt zs h1; omega
end
end Go.Proofs.Qxb6604610aFmt
