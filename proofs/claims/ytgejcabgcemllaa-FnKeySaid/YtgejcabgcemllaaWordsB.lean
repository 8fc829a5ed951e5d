/- Rows of words: what bigmod's loops compute, as plain functions, and what they come to. No condition. -/
import Derived.Test.YtgejcabgcemllaaWords
namespace Go.Proofs.Ytgejcabgcemllaa

/-- All of the first k words are 0: 1, else 0. -/
def allZ (L : List Nat) : Nat → Nat
  | 0 => 1
  | k + 1 => min (allZ L k) (eqB (nth L k) 0)
theorem allZ_le (L : List Nat) (k : Nat) : allZ L k ≤ 1 := by
  induction k with
  | zero => simp [allZ]
  | succ k ih => simp only [allZ]; omega
theorem eqB_same (a : Nat) : eqB a a = 1 := if_pos rfl
theorem eqB_ne {a b : Nat} (h : a ≠ b) : eqB a b = 0 := if_neg h
theorem eqB_min0 {a b p : Nat} (hp : 0 < p) : min (eqB a 0) (eqB b 0) = eqB (a + p * b) 0 := by
  by_cases h1 : a = 0
  · by_cases h2 : b = 0
    · subst h1 h2; simp [eqB]
    · have := Nat.mul_pos hp (Nat.pos_of_ne_zero h2)
      rw [eqB_ne h2, eqB_ne (show a + p * b ≠ 0 by omega)]; omega
  · rw [eqB_ne h1, eqB_ne (show a + p * b ≠ 0 by omega)]; omega
theorem eqB_min1 {a b p : Nat} (hp : 1 < p) : min (eqB a 1) (eqB b 0) = eqB (a + p * b) 1 := by
  by_cases h2 : b = 0
  · subst h2; simp [eqB]; split <;> omega
  · have := Nat.mul_le_mul_left p (show 1 ≤ b by omega)
    rw [eqB_ne h2, eqB_ne (show a + p * b ≠ 1 by omega)]; omega
theorem allZ_eq {L : List Nat} : ∀ k, k ≤ L.length → allZ L k = eqB (val (L.take k)) 0 := by
  intro k
  induction k with
  | zero => intro _; rfl
  | succ k ih =>
    intro hk
    rw [val_take_succ (by omega), allZ, ih (by omega)]
    exact eqB_min0 (Nat.pow_pos W_pos)

/-- The first word is 1 and those behind it, below k, are 0. -/
def oneZ (L : List Nat) : Nat → Nat
  | 0 => eqB (nth L 0) 1
  | k + 1 => min (oneZ L k) (eqB (nth L (k + 1)) 0)
theorem oneZ_le (L : List Nat) (k : Nat) : oneZ L k ≤ 1 := by
  induction k with
  | zero => simp only [oneZ]; exact eqB_le _ _
  | succ k ih => simp only [oneZ]; omega
theorem oneZ_eq {L : List Nat} : ∀ k, k < L.length → oneZ L k = eqB (val (L.take (k + 1))) 1 := by
  intro k
  induction k with
  | zero =>
    intro hk
    rw [val_take_succ hk]
    simp [oneZ, val]
  | succ k ih =>
    intro hk
    rw [val_take_succ (by omega), oneZ, ih (by omega)]
    have hp : 1 < W ^ (k + 1) := by
      have : W ^ 1 ≤ W ^ (k + 1) := Nat.pow_le_pow_right W_pos (by omega)
      rw [Nat.pow_one] at this
      have := W_eq
      omega
    exact eqB_min1 hp

/-- How many words are left when zeros are taken off the end, of the first k. -/
def trimN (L : List Nat) : Nat → Nat
  | 0 => 0
  | k + 1 => if nth L k = 0 then trimN L k else k + 1
theorem trimN_le (L : List Nat) (k : Nat) : trimN L k ≤ k := by
  induction k with
  | zero => simp [trimN]
  | succ k ih => simp only [trimN]; split <;> omega
theorem trimN_val {L : List Nat} : ∀ k, k ≤ L.length → val (L.take (trimN L k)) = val (L.take k) := by
  intro k
  induction k with
  | zero => intro _; rfl
  | succ k ih =>
    intro hk
    simp only [trimN]
    split
    · rename_i h
      rw [ih (by omega), val_take_succ (by omega), h]
      omega
    · rfl
theorem trimN_top {L : List Nat} : ∀ k, trimN L k ≠ 0 → nth L (trimN L k - 1) ≠ 0 := by
  intro k
  induction k with
  | zero => intro h; exact absurd rfl h
  | succ k ih =>
    simp only [trimN]
    split
    · exact ih
    · rename_i h
      intro _
      simpa using h

/-- The bits of a row: of its highest word that is not 0, and 64 for each below. -/
def rowBits (L : List Nat) : Nat → Nat
  | 0 => 0
  | k + 1 => if nth L k = 0 then rowBits L k else k * 64 + blen (nth L k)

theorem lt_two_blen (n : Nat) : n < 2 ^ blen n := by
  unfold blen
  split
  · rename_i h; subst h; simp
  · rename_i h
    exact (Nat.log2_lt h).1 (Nat.lt_succ_self _)
theorem two_blen_le {n : Nat} (h : n ≠ 0) : 2 ^ (blen n - 1) ≤ n := by
  unfold blen
  rw [if_neg h]
  exact (Nat.le_log2 h (k := Nat.log2 n)).1 (Nat.le_refl _)
theorem blen_unique {n k : Nat} (h0 : n ≠ 0) (h1 : 2 ^ k ≤ n) (h2 : n < 2 ^ (k + 1)) : blen n = k + 1 := by
  unfold blen
  rw [if_neg h0]
  have a := (Nat.le_log2 h0).2 h1
  have b := (Nat.log2_lt h0).2 h2
  omega
theorem W_two : W = 2 ^ 64 := by rw [W_eq]
theorem W_pow (k : Nat) : W ^ k = 2 ^ (64 * k) := by rw [W_two, ← Nat.pow_mul]
theorem blen_add {a b k : Nat} (ha : a < 2 ^ k) (hb : b ≠ 0) : blen (a + 2 ^ k * b) = k + blen b := by
  have h1 := two_blen_le hb
  have h2 := lt_two_blen b
  have hb1 : 1 ≤ blen b := by unfold blen; rw [if_neg hb]; omega
  have e : k + blen b = (k + (blen b - 1)) + 1 := by omega
  rw [e]
  have hp : 0 < 2 ^ k := Nat.pow_pos (by omega)
  have hbp : 2 ^ k * 1 ≤ 2 ^ k * b := Nat.mul_le_mul_left _ (by omega)
  refine blen_unique (by omega) ?_ ?_
  · rw [Nat.pow_add]
    have := Nat.mul_le_mul_left (2 ^ k) h1
    omega
  · rw [show k + (blen b - 1) + 1 = k + blen b by omega, Nat.pow_add]
    have := Nat.mul_le_mul_left (2 ^ k) (show b + 1 ≤ 2 ^ blen b from h2)
    rw [Nat.mul_add] at this
    omega
theorem rowBits_eq {L : List Nat} (h : Words L) : ∀ k, k ≤ L.length → rowBits L k = blen (val (L.take k)) := by
  intro k
  induction k with
  | zero => intro _; rfl
  | succ k ih =>
    intro hk
    rw [val_take_succ (by omega)]
    simp only [rowBits]
    split
    · rename_i h0
      rw [h0, ih (by omega)]
      simp
    · rename_i h0
      have hl : val (L.take k) < W ^ k := by
        have := val_lt (h.take k)
        simpa [Nat.min_eq_left (show k ≤ L.length by omega)] using this
      rw [W_pow] at hl ⊢
      rw [blen_add hl h0]
      omega

/-! Sum and difference, word by word. -/
def addC (X Y : List Nat) : Nat → Nat
  | 0 => 0
  | i + 1 => addHi (nth X i) (nth Y i) (addC X Y i)
def addL (X Y : List Nat) : Nat → List Nat
  | 0 => X
  | i + 1 => (addL X Y i).set i (addLo (nth X i) (nth Y i) (addC X Y i))
def subC (X Y : List Nat) : Nat → Nat
  | 0 => 0
  | i + 1 => subHi (nth X i) (nth Y i) (subC X Y i)
def subL (X Y : List Nat) : Nat → List Nat
  | 0 => X
  | i + 1 => (subL X Y i).set i (subLo (nth X i) (nth Y i) (subC X Y i))

theorem addL_length (X Y : List Nat) (i : Nat) : (addL X Y i).length = X.length := by
  induction i with
  | zero => rfl
  | succ i ih => simp [addL, ih]
theorem subL_length (X Y : List Nat) (i : Nat) : (subL X Y i).length = X.length := by
  induction i with
  | zero => rfl
  | succ i ih => simp [subL, ih]
theorem addC_le {X Y : List Nat} (hX : Words X) (hY : Words Y) (i : Nat) : addC X Y i ≤ 1 := by
  induction i with
  | zero => simp [addC]
  | succ i ih => exact addHi_le (hX.nth i) (hY.nth i) ih
theorem subC_le (X Y : List Nat) (i : Nat) : subC X Y i ≤ 1 := by
  cases i with
  | zero => simp [subC]
  | succ i => exact subHi_le _ _ _
theorem addL_words {X Y : List Nat} (hX : Words X) (i : Nat) : Words (addL X Y i) := by
  induction i with
  | zero => exact hX
  | succ i ih => exact ih.set _ (addLo_lt _ _ _)
theorem subL_words {X Y : List Nat} (hX : Words X) (i : Nat) : Words (subL X Y i) := by
  induction i with
  | zero => exact hX
  | succ i ih => exact ih.set _ (subLo_lt _ _ _)
theorem addL_at (X Y : List Nat) {i j : Nat} (h : i ≤ j) : nth (addL X Y i) j = nth X j := by
  induction i with
  | zero => rfl
  | succ i ih => simp only [addL]; rw [nth_set_ne (by omega), ih (by omega)]
theorem subL_at (X Y : List Nat) {i j : Nat} (h : i ≤ j) : nth (subL X Y i) j = nth X j := by
  induction i with
  | zero => rfl
  | succ i ih => simp only [subL]; rw [nth_set_ne (by omega), ih (by omega)]

theorem take_set_ge {L : List Nat} {i k v : Nat} (h : k ≤ i) : (L.set i v).take k = L.take k := by
  rw [List.take_set_of_le h]
theorem take_succ_set {L : List Nat} {i v : Nat} (h : i < L.length) : val ((L.set i v).take (i + 1)) = val (L.take i) + W ^ i * v := by
  rw [val_take_succ (by simpa using h), take_set_ge (Nat.le_refl _), nth_set_same h]

theorem addL_val {X Y : List Nat} : ∀ i, i ≤ X.length → i ≤ Y.length →
    val ((addL X Y i).take i) + W ^ i * addC X Y i = val (X.take i) + val (Y.take i) := by
  intro i
  induction i with
  | zero => intro _ _; simp [addC, val]
  | succ i ih =>
    intro h1 h2
    have := ih (by omega) (by omega)
    simp only [addL, addC]
    rw [take_succ_set (by rw [addL_length]; omega), val_take_succ (by omega), val_take_succ (by omega)]
    have e := add_eq (nth X i) (nth Y i) (addC X Y i)
    have e2 : W ^ i * addLo (nth X i) (nth Y i) (addC X Y i) + W ^ (i + 1) * addHi (nth X i) (nth Y i) (addC X Y i) = W ^ i * nth X i + W ^ i * nth Y i + W ^ i * addC X Y i := by
      rw [Nat.pow_succ, Nat.mul_assoc, ← Nat.mul_add, e]
      simp only [Nat.mul_add]
    omega
theorem subL_val {X Y : List Nat} (hX : Words X) (hY : Words Y) : ∀ i, i ≤ X.length → i ≤ Y.length →
    val ((subL X Y i).take i) + val (Y.take i) = val (X.take i) + W ^ i * subC X Y i := by
  intro i
  induction i with
  | zero => intro _ _; simp [subC, val]
  | succ i ih =>
    intro h1 h2
    have := ih (by omega) (by omega)
    simp only [subL, subC]
    rw [take_succ_set (by rw [subL_length]; omega), val_take_succ (by omega), val_take_succ (by omega)]
    have e := sub_eq (hX.nth i) (hY.nth i) (subC_le X Y i)
    have e2 : W ^ i * subLo (nth X i) (nth Y i) (subC X Y i) + W ^ i * nth Y i + W ^ i * subC X Y i = W ^ i * nth X i + W ^ (i + 1) * subHi (nth X i) (nth Y i) (subC X Y i) := by
      rw [Nat.pow_succ, Nat.mul_assoc, ← Nat.mul_add, ← Nat.mul_add, ← Nat.mul_add, e]
    omega

/-- Whole rows: the sum and what is carried out; the difference and what is borrowed. -/
theorem add_whole {X Y : List Nat} (h : Y.length = X.length) : val (addL X Y X.length) + W ^ X.length * addC X Y X.length = val X + val Y := by
  have := addL_val (X := X) (Y := Y) X.length (Nat.le_refl _) (by omega)
  have h1 : (addL X Y X.length).take X.length = addL X Y X.length := List.take_of_length_le (by rw [addL_length]; omega)
  have h2 : X.take X.length = X := List.take_length
  have h3 : Y.take X.length = Y := by rw [← h]; exact List.take_length
  rwa [h1, h2, h3] at this
theorem sub_whole {X Y : List Nat} (hX : Words X) (hY : Words Y) (h : Y.length = X.length) : val (subL X Y X.length) + val Y = val X + W ^ X.length * subC X Y X.length := by
  have := subL_val hX hY X.length (Nat.le_refl _) (by omega)
  have h1 : (subL X Y X.length).take X.length = subL X Y X.length := List.take_of_length_le (by rw [subL_length]; omega)
  have h2 : X.take X.length = X := List.take_length
  have h3 : Y.take X.length = Y := by rw [← h]; exact List.take_length
  rwa [h1, h2, h3] at this
/-- What is borrowed is 1 exactly where the second number is the greater one. -/
theorem subC_whole {X Y : List Nat} (hX : Words X) (hY : Words Y) (h : Y.length = X.length) : subC X Y X.length = if val X < val Y then 1 else 0 := by
  have e := sub_whole hX hY h
  have h1 := val_lt (subL_words (Y := Y) hX X.length)
  rw [subL_length] at h1
  have h2 := val_lt hX
  have h3 := val_lt hY
  have hc := subC_le X Y X.length
  rw [h] at h3
  have : subC X Y X.length = 0 ∨ subC X Y X.length = 1 := by omega
  rcases this with h0 | h0
  · rw [h0] at e ⊢
    rw [if_neg (by omega)]
  · rw [h0] at e ⊢
    rw [if_pos (by omega)]

/-! Word by word one of two rows. -/
def selL (on : Nat) (X Y : List Nat) : Nat → List Nat
  | 0 => X
  | i + 1 => (selL on X Y i).set i (if on = 0 then nth X i else nth Y i)
theorem selL_length (on : Nat) (X Y : List Nat) (i : Nat) : (selL on X Y i).length = X.length := by
  induction i with
  | zero => rfl
  | succ i ih => simp [selL, ih]
theorem selL_at (on : Nat) (X Y : List Nat) {i j : Nat} (h : i ≤ j) : nth (selL on X Y i) j = nth X j := by
  induction i with
  | zero => rfl
  | succ i ih => simp only [selL]; rw [nth_set_ne (by omega), ih (by omega)]
theorem nth_ext {A B : List Nat} (hl : A.length = B.length) (h : ∀ i, i < A.length → nth A i = nth B i) : A = B := by
  refine List.ext_getElem hl fun i h1 h2 => ?_
  have := h i h1
  rwa [nth_eq _ _ h1, nth_eq _ _ h2] at this
theorem selL_lt (on : Nat) (X Y : List Nat) {i j : Nat} (h : j < i) (hj : j < X.length) : nth (selL on X Y i) j = if on = 0 then nth X j else nth Y j := by
  induction i with
  | zero => omega
  | succ i ih =>
    simp only [selL]
    by_cases hij : i = j
    · subst hij
      rw [nth_set_same (by rw [selL_length]; exact hj)]
    · rw [nth_set_ne hij, ih (by omega)]
theorem selL_whole (on : Nat) {X Y : List Nat} (h : Y.length = X.length) : selL on X Y X.length = if on = 0 then X else Y := by
  split
  · refine nth_ext (selL_length _ _ _ _) fun i hi => ?_
    rw [selL_length] at hi
    rw [selL_lt _ _ _ hi hi, if_pos (by assumption)]
  · refine nth_ext ((selL_length _ _ _ _).trans h.symm) fun i hi => ?_
    rw [selL_length] at hi
    rw [selL_lt _ _ _ hi hi, if_neg (by assumption)]

end Go.Proofs.Ytgejcabgcemllaa
