/- A row taken times a word and added to another: what addMulVVW computes, and what it comes to. No condition. -/
import Derived.Test.YtgejcabgcemllaaWordsB
namespace Go.Proofs.Ytgejcabgcemllaa

/-- One step: x * y + z + c in two words. -/
def stepLo (x y z c : Nat) : Nat := addLo (addLo (mulLo x y) z 0) c 0
def stepHi (x y z c : Nat) : Nat := addLo (addLo (mulHi x y) 0 (addHi (mulLo x y) z 0)) 0 (addHi (addLo (mulLo x y) z 0) c 0)
theorem stepLo_lt (x y z c : Nat) : stepLo x y z c < W := addLo_lt _ _ _
theorem stepHi_lt (x y z c : Nat) : stepHi x y z c < W := addLo_lt _ _ _
theorem addLo_small {x y c : Nat} (h : x + y + c < W) : addLo x y c = x + y + c := Nat.mod_eq_of_lt h
theorem step_eq {x y z c : Nat} (hx : x < W) (hy : y < W) (hz : z < W) (hc : c < W) : stepLo x y z c + W * stepHi x y z c = x * y + z + c := by
  have e1 := mul_eq x y
  have e2 := add_eq (mulLo x y) z 0
  have e3 := add_eq (addLo (mulLo x y) z 0) c 0
  have b1 := mulLo_lt x y
  have l1 := addLo_lt (mulLo x y) z 0
  have h1 := addHi_le (c := 0) b1 hz (by omega)
  have h2 := addHi_le (c := 0) l1 hc (by omega)
  have hprod : x * y ≤ (W - 1) * (W - 1) := Nat.mul_le_mul (by omega) (by omega)
  have hW := W_eq
  have hm : mulHi x y + addHi (mulLo x y) z 0 + addHi (addLo (mulLo x y) z 0) c 0 < W := by
    have : W * (mulHi x y + addHi (mulLo x y) z 0 + addHi (addLo (mulLo x y) z 0) c 0) ≤ x * y + z + c := by
      rw [Nat.mul_add, Nat.mul_add]
      omega
    have h3 : x * y + z + c < W * W := by
      have : (W - 1) * (W - 1) + (W - 1) + (W - 1) < W * W := by rw [W_eq]; omega
      omega
    exact Nat.lt_of_mul_lt_mul_left (Nat.lt_of_le_of_lt this h3)
  have f1 : addLo (mulHi x y) 0 (addHi (mulLo x y) z 0) = mulHi x y + addHi (mulLo x y) z 0 := addLo_small (by omega)
  have f2 : stepHi x y z c = mulHi x y + addHi (mulLo x y) z 0 + addHi (addLo (mulLo x y) z 0) c 0 := by
    unfold stepHi
    rw [f1]
    exact addLo_small (by omega)
  rw [f2]
  unfold stepLo
  rw [Nat.mul_add, Nat.mul_add]
  omega

/-- The carry behind i steps; the row Z from place oz on, taken up with X from place ox on times y. -/
def mulC (Z X : List Nat) (oz ox y : Nat) : Nat → Nat
  | 0 => 0
  | i + 1 => stepHi (nth X (ox + i)) y (nth Z (oz + i)) (mulC Z X oz ox y i)
def mulL (Z X : List Nat) (oz ox y : Nat) : Nat → List Nat
  | 0 => Z
  | i + 1 => (mulL Z X oz ox y i).set (oz + i) (stepLo (nth X (ox + i)) y (nth Z (oz + i)) (mulC Z X oz ox y i))
theorem mulC_lt (Z X : List Nat) (oz ox y i : Nat) : mulC Z X oz ox y i < W := by
  cases i with
  | zero => exact W_pos
  | succ i => exact stepHi_lt _ _ _ _
theorem mulL_length (Z X : List Nat) (oz ox y i : Nat) : (mulL Z X oz ox y i).length = Z.length := by
  induction i with
  | zero => rfl
  | succ i ih => simp [mulL, ih]
theorem mulL_words {Z : List Nat} (hZ : Words Z) (X : List Nat) (oz ox y i : Nat) : Words (mulL Z X oz ox y i) := by
  induction i with
  | zero => exact hZ
  | succ i ih => exact ih.set _ (stepLo_lt _ _ _ _)
theorem mulL_at (Z X : List Nat) (oz ox y : Nat) {i j : Nat} (h : oz + i ≤ j) : nth (mulL Z X oz ox y i) j = nth Z j := by
  induction i with
  | zero => rfl
  | succ i ih => simp only [mulL]; rw [nth_set_ne (by omega), ih (by omega)]
theorem mulL_below (Z X : List Nat) (oz ox y i : Nat) {j : Nat} (h : j < oz) : nth (mulL Z X oz ox y i) j = nth Z j := by
  induction i with
  | zero => rfl
  | succ i ih => simp only [mulL]; rw [nth_set_ne (by omega), ih]

/-- A piece of a row as a number. -/
def seg (Z : List Nat) (o : Nat) : Nat → Nat
  | 0 => 0
  | i + 1 => seg Z o i + W ^ i * nth Z (o + i)
theorem seg_lt {Z : List Nat} (h : Words Z) (o : Nat) : ∀ i, seg Z o i < W ^ i := by
  intro i
  induction i with
  | zero => simp [seg]
  | succ i ih =>
    simp only [seg, Nat.pow_succ]
    have := h.nth (o + i)
    have h2 : W ^ i * (nth Z (o + i) + 1) ≤ W ^ i * W := Nat.mul_le_mul_left _ this
    rw [Nat.mul_add] at h2
    omega
theorem seg_whole (Z : List Nat) : ∀ i, i ≤ Z.length → seg Z 0 i = val (Z.take i) := by
  intro i
  induction i with
  | zero => intro _; rfl
  | succ i ih =>
    intro h
    rw [val_take_succ (by omega), ← ih (by omega)]
    simp [seg]
theorem seg_congr {A B : List Nat} {o o' : Nat} : ∀ i, (∀ j, j < i → nth A (o + j) = nth B (o' + j)) → seg A o i = seg B o' i := by
  intro i
  induction i with
  | zero => intro _; rfl
  | succ i ih =>
    intro h
    simp only [seg]
    rw [ih (fun j hj => h j (by omega)), h i (by omega)]

theorem mulL_seg {Z X : List Nat} (hZ : Words Z) (hX : Words X) {oz ox y : Nat} (hy : y < W) : ∀ i, oz + i ≤ Z.length →
    seg (mulL Z X oz ox y i) oz i + W ^ i * mulC Z X oz ox y i = seg Z oz i + y * seg X ox i := by
  intro i
  induction i with
  | zero => intro _; simp [seg, mulC]
  | succ i ih =>
    intro h
    have e := ih (by omega)
    have s := step_eq (hX.nth (ox + i)) hy (hZ.nth (oz + i)) (mulC_lt Z X oz ox y i)
    simp only [seg, mulC, mulL]
    rw [nth_set_same (by rw [mulL_length]; omega)]
    have c : seg ((mulL Z X oz ox y i).set (oz + i) (stepLo (nth X (ox + i)) y (nth Z (oz + i)) (mulC Z X oz ox y i))) oz i = seg (mulL Z X oz ox y i) oz i :=
      seg_congr i fun j hj => nth_set_ne (by omega)
    rw [c]
    have e2 : W ^ i * stepLo (nth X (ox + i)) y (nth Z (oz + i)) (mulC Z X oz ox y i) + W ^ (i + 1) * stepHi (nth X (ox + i)) y (nth Z (oz + i)) (mulC Z X oz ox y i)
        = W ^ i * (nth X (ox + i) * y) + W ^ i * nth Z (oz + i) + W ^ i * mulC Z X oz ox y i := by
      rw [Nat.pow_succ, Nat.mul_assoc, ← Nat.mul_add, s, Nat.mul_add, Nat.mul_add]
    have e3 : y * (seg X ox i + W ^ i * nth X (ox + i)) = y * seg X ox i + W ^ i * (nth X (ox + i) * y) := by
      rw [Nat.mul_add]
      congr 1
      rw [Nat.mul_left_comm, Nat.mul_comm y]
    omega

end Go.Proofs.Ytgejcabgcemllaa
