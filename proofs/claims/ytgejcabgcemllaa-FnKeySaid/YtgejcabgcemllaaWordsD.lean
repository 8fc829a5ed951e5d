/- Montgomery multiplication, word by word, as a plain function on rows, and what it comes to: a * b / R modulo m. The word k is the one for which k times the modulus' first word is -1. -/
import Derived.Test.YtgejcabgcemllaaWordsC
namespace Go.Proofs.Ytgejcabgcemllaa

/-- The row and the carry behind i rounds, of the row Z at first. -/
def mT (Z A B M : List Nat) (k n : Nat) : Nat → List Nat × Nat
  | 0 => (Z, 0)
  | i + 1 =>
    let T := (mT Z A B M k n i).1
    let T1 := mulL T A i 0 (nth B i) n
    let c1 := mulC T A i 0 (nth B i) n
    let Y := nth T1 i * k % W
    ((mulL T1 M i 0 Y n).set (n + i) (addLo c1 (mulC T1 M i 0 Y n) (mT Z A B M k n i).2), addHi c1 (mulC T1 M i 0 Y n) (mT Z A B M k n i).2)

/-- The pieces of a round by name. -/
def mRow (Z A B M : List Nat) (k n i : Nat) : List Nat := (mT Z A B M k n i).1
def mCar (Z A B M : List Nat) (k n i : Nat) : Nat := (mT Z A B M k n i).2
def mRow1 (Z A B M : List Nat) (k n i : Nat) : List Nat := mulL (mRow Z A B M k n i) A i 0 (nth B i) n
def mCar1 (Z A B M : List Nat) (k n i : Nat) : Nat := mulC (mRow Z A B M k n i) A i 0 (nth B i) n
def mY (Z A B M : List Nat) (k n i : Nat) : Nat := nth (mRow1 Z A B M k n i) i * k % W
def mRow2 (Z A B M : List Nat) (k n i : Nat) : List Nat := mulL (mRow1 Z A B M k n i) M i 0 (mY Z A B M k n i) n
def mCar2 (Z A B M : List Nat) (k n i : Nat) : Nat := mulC (mRow1 Z A B M k n i) M i 0 (mY Z A B M k n i) n

theorem mRow_zero (Z A B M : List Nat) (k n : Nat) : mRow Z A B M k n 0 = Z := rfl
theorem mCar_zero (Z A B M : List Nat) (k n : Nat) : mCar Z A B M k n 0 = 0 := rfl
theorem mRow_succ (Z A B M : List Nat) (k n i : Nat) : mRow Z A B M k n (i + 1) = (mRow2 Z A B M k n i).set (n + i) (addLo (mCar1 Z A B M k n i) (mCar2 Z A B M k n i) (mCar Z A B M k n i)) := rfl
theorem mCar_succ (Z A B M : List Nat) (k n i : Nat) : mCar Z A B M k n (i + 1) = addHi (mCar1 Z A B M k n i) (mCar2 Z A B M k n i) (mCar Z A B M k n i) := rfl

section
variable {Z A B M : List Nat} {k n : Nat}
theorem mRow_length (i : Nat) : (mRow Z A B M k n i).length = Z.length := by
  induction i with
  | zero => rfl
  | succ i ih => rw [mRow_succ]; simp only [List.length_set, mRow2, mRow1, mulL_length]; exact ih
theorem mRow1_length (i : Nat) : (mRow1 Z A B M k n i).length = Z.length := by rw [mRow1, mulL_length, mRow_length]
theorem mRow2_length (i : Nat) : (mRow2 Z A B M k n i).length = Z.length := by rw [mRow2, mulL_length, mRow1_length]
theorem mRow_words (hZ : Words Z) (i : Nat) : Words (mRow Z A B M k n i) := by
  induction i with
  | zero => exact hZ
  | succ i ih => rw [mRow_succ]; exact (mulL_words (mulL_words ih _ _ _ _ _) _ _ _ _ _).set _ (addLo_lt _ _ _)
theorem mRow1_words (hZ : Words Z) (i : Nat) : Words (mRow1 Z A B M k n i) := mulL_words (mRow_words hZ i) _ _ _ _ _
theorem mRow2_words (hZ : Words Z) (i : Nat) : Words (mRow2 Z A B M k n i) := mulL_words (mRow1_words hZ i) _ _ _ _ _
theorem mY_lt (i : Nat) : mY Z A B M k n i < W := Nat.mod_lt _ W_pos
theorem mCar_le (i : Nat) : mCar Z A B M k n i ≤ 1 := by
  induction i with
  | zero => rw [mCar_zero]; omega
  | succ i ih => rw [mCar_succ]; exact addHi_le (mulC_lt _ _ _ _ _ _) (mulC_lt _ _ _ _ _ _) ih

theorem seg_succ_front (T : List Nat) (o : Nat) : ∀ n, seg T o (n + 1) = nth T o + W * seg T (o + 1) n := by
  intro n
  induction n with
  | zero => simp [seg]
  | succ n ih =>
    rw [seg, ih]
    simp only [seg]
    rw [Nat.pow_succ, Nat.mul_add, show o + (n + 1) = o + 1 + n by omega, Nat.mul_comm (W ^ n) W, Nat.mul_assoc, Nat.add_assoc]

/-- What the window counts to behind i rounds. -/
def mU (Z A B M : List Nat) (k n i : Nat) : Nat := seg (mRow Z A B M k n i) i n + W ^ n * mCar Z A B M k n i

theorem low_zero {t y m k : Nat} (hk : (k * m) % W = W - 1) (hy : y = t * k % W) : (t + y * m) % W = 0 := by
  have h1 : (t + y * m) % W = (t * (1 + k * m)) % W := by
    rw [hy, Nat.add_mod, Nat.mod_mul_mod, Nat.mul_add, Nat.mul_one, Nat.mul_assoc, ← Nat.add_mod]
  have hW := W_pos
  have h2 : (1 + k * m) % W = 0 := by
    rw [Nat.add_mod, hk]
    have : 1 % W = 1 := Nat.mod_eq_of_lt (by rw [W_eq]; omega)
    rw [this, show 1 + (W - 1) = W by omega, Nat.mod_self]
  rw [h1, Nat.mul_mod, h2, Nat.mul_zero, Nat.zero_mod]

/-- One round: the window times W is what it was, and the round's digit of b times a, and a multiple of m. -/
theorem mU_step (hZ : Words Z) (hA : Words A) (hB : Words B) (hM : Words M) (hn : 0 < n) (hal : A.length = n) (hml : M.length = n) (hk : (k * nth M 0) % W = W - 1) {i : Nat} (hi : i < n) (hz : 2 * n ≤ Z.length) :
    W * mU Z A B M k n (i + 1) = mU Z A B M k n i + nth B i * val A + mY Z A B M k n i * val M := by
  have sA : seg A 0 n = val A := by rw [seg_whole _ _ (by omega), ← hal, List.take_length]
  have sM : seg M 0 n = val M := by rw [seg_whole _ _ (by omega), ← hml, List.take_length]
  have e1 : seg (mRow1 Z A B M k n i) i n + W ^ n * mCar1 Z A B M k n i = seg (mRow Z A B M k n i) i n + nth B i * val A := by
    have := mulL_seg (mRow_words hZ i (A := A) (B := B) (M := M) (k := k) (n := n)) hA (oz := i) (ox := 0) (hB.nth i) n (by rw [mRow_length]; omega)
    rw [sA] at this
    exact this
  have e2 : seg (mRow2 Z A B M k n i) i n + W ^ n * mCar2 Z A B M k n i = seg (mRow1 Z A B M k n i) i n + mY Z A B M k n i * val M := by
    have := mulL_seg (mRow1_words hZ i (A := A) (B := B) (M := M) (k := k) (n := n)) hM (oz := i) (ox := 0) (mY_lt (Z := Z) (A := A) (B := B) (M := M) (k := k) (n := n) i) n (by rw [mRow1_length]; omega)
    rw [sM] at this
    exact this
  obtain ⟨n', rfl⟩ : ∃ n', n = n' + 1 := ⟨n - 1, by omega⟩
  have hlow : nth (mRow2 Z A B M k (n' + 1) i) i = 0 := by
    have f2 := seg_succ_front (mRow2 Z A B M k (n' + 1) i) i n'
    have f1 := seg_succ_front (mRow1 Z A B M k (n' + 1) i) i n'
    have fm : val M = nth M 0 + W * seg M 1 n' := by rw [← sM, seg_succ_front]
    have hz0 := low_zero (t := nth (mRow1 Z A B M k (n' + 1) i) i) hk (y := mY Z A B M k (n' + 1) i) rfl
    have hw := (mRow2_words hZ i (A := A) (B := B) (M := M) (k := k) (n := n' + 1)).nth i
    have hmod : nth (mRow2 Z A B M k (n' + 1) i) i % W = (nth (mRow1 Z A B M k (n' + 1) i) i + mY Z A B M k (n' + 1) i * nth M 0) % W := by
      have h3 := congrArg (fun t => t % W) e2
      rw [f2, f1, fm, Nat.pow_succ, Nat.mul_add] at h3
      rw [show W ^ n' * W * mCar2 Z A B M k (n' + 1) i = W * (W ^ n' * mCar2 Z A B M k (n' + 1) i) by rw [Nat.mul_comm (W ^ n') W, Nat.mul_assoc]] at h3
      rw [show mY Z A B M k (n' + 1) i * (W * seg M 1 n') = W * (mY Z A B M k (n' + 1) i * seg M 1 n') by rw [Nat.mul_left_comm]] at h3
      rw [Nat.add_mul_mod_self_left, Nat.add_mul_mod_self_left] at h3
      rw [h3]
      rw [show ∀ a b c d : Nat, a + W * b + (c + W * d) = a + c + W * (b + d) from fun a b c d => by rw [Nat.mul_add]; omega]
      rw [Nat.add_mul_mod_self_left]
    rw [Nat.mod_eq_of_lt hw, hz0] at hmod
    exact hmod
  have f2 := seg_succ_front (mRow2 Z A B M k (n' + 1) i) i n'
  rw [hlow, Nat.zero_add] at f2
  have f3 : seg (mRow Z A B M k (n' + 1) (i + 1)) (i + 1) (n' + 1) = seg (mRow2 Z A B M k (n' + 1) i) (i + 1) n' + W ^ n' * addLo (mCar1 Z A B M k (n' + 1) i) (mCar2 Z A B M k (n' + 1) i) (mCar Z A B M k (n' + 1) i) := by
    rw [seg, mRow_succ]
    have c : seg ((mRow2 Z A B M k (n' + 1) i).set (n' + 1 + i) (addLo (mCar1 Z A B M k (n' + 1) i) (mCar2 Z A B M k (n' + 1) i) (mCar Z A B M k (n' + 1) i))) (i + 1) n' = seg (mRow2 Z A B M k (n' + 1) i) (i + 1) n' :=
      seg_congr n' fun j hj => nth_set_ne (by omega)
    rw [c, show i + 1 + n' = n' + 1 + i by omega, nth_set_same (by rw [mRow2_length]; omega)]
  have hadd := add_eq (mCar1 Z A B M k (n' + 1) i) (mCar2 Z A B M k (n' + 1) i) (mCar Z A B M k (n' + 1) i)
  unfold mU
  rw [f3, mCar_succ]
  rw [f2] at e2
  generalize addLo (mCar1 Z A B M k (n' + 1) i) (mCar2 Z A B M k (n' + 1) i) (mCar Z A B M k (n' + 1) i) = lo at *
  generalize addHi (mCar1 Z A B M k (n' + 1) i) (mCar2 Z A B M k (n' + 1) i) (mCar Z A B M k (n' + 1) i) = hi at *
  have g1 : W * (seg (mRow2 Z A B M k (n' + 1) i) (i + 1) n' + W ^ n' * lo + W ^ (n' + 1) * hi) = W * seg (mRow2 Z A B M k (n' + 1) i) (i + 1) n' + W ^ (n' + 1) * (lo + W * hi) := by
    rw [Nat.mul_add, Nat.mul_add, Nat.mul_add, Nat.pow_succ, Nat.add_assoc]
    congr 2
    · rw [Nat.mul_comm (W ^ n') W, Nat.mul_assoc]
    · rw [Nat.mul_left_comm]
  rw [g1, hadd, Nat.mul_add, Nat.mul_add]
  omega

theorem mU_lt (hZ : Words Z) (hA : Words A) (hB : Words B) (hM : Words M) (hn : 0 < n) (hal : A.length = n) (hml : M.length = n) (hk : (k * nth M 0) % W = W - 1) (hz : 2 * n ≤ Z.length) (hz0 : val (Z.take n) = 0) (hMp : 0 < val M) :
    ∀ i, i ≤ n → mU Z A B M k n i < val A + val M := by
  intro i
  induction i with
  | zero =>
    intro _
    unfold mU
    rw [mRow_zero, mCar_zero, seg_whole _ _ (by omega), hz0]
    omega
  | succ i ih =>
    intro hi
    have h := ih (by omega)
    have e := mU_step hZ hA hB hM hn hal hml hk (i := i) (by omega) hz
    have b1 := hB.nth i
    have b2 := mY_lt (Z := Z) (A := A) (B := B) (M := M) (k := k) (n := n) i
    have c1 : nth B i * val A ≤ (W - 1) * val A := Nat.mul_le_mul_right _ (by omega)
    have c2 : mY Z A B M k n i * val M ≤ (W - 1) * val M := Nat.mul_le_mul_right _ (by omega)
    have hW := W_pos
    have d1 : (W - 1) * val A + val A = W * val A := by rw [← Nat.succ_mul]; congr 1
    have d2 : (W - 1) * val M + val M = W * val M := by rw [← Nat.succ_mul]; congr 1
    have : W * mU Z A B M k n (i + 1) < W * (val A + val M) := by rw [e, Nat.mul_add]; omega
    exact Nat.lt_of_mul_lt_mul_left this

theorem mU_mod (hZ : Words Z) (hA : Words A) (hB : Words B) (hM : Words M) (hn : 0 < n) (hal : A.length = n) (hml : M.length = n) (hk : (k * nth M 0) % W = W - 1) (hz : 2 * n ≤ Z.length) (hz0 : val (Z.take n) = 0) :
    ∀ i, i ≤ n → (W ^ i * mU Z A B M k n i) % val M = (val A * seg B 0 i) % val M := by
  intro i
  induction i with
  | zero =>
    intro _
    unfold mU
    rw [mRow_zero, mCar_zero, seg_whole _ _ (by omega), hz0]
    simp [seg]
  | succ i ih =>
    intro hi
    have e := mU_step hZ hA hB hM hn hal hml hk (i := i) (by omega) hz
    have g : W ^ (i + 1) * mU Z A B M k n (i + 1) = W ^ i * mU Z A B M k n i + val A * (W ^ i * nth B i) + val M * (W ^ i * mY Z A B M k n i) := by
      rw [Nat.pow_succ, Nat.mul_assoc, e, Nat.mul_add, Nat.mul_add]
      ac_rfl
    rw [g, Nat.add_mul_mod_self_left, seg, Nat.zero_add, Nat.mul_add, Nat.add_mod, ih (by omega), ← Nat.add_mod]

/-- The result: U modulo m. -/
theorem mont_eq (hZ : Words Z) (hA : Words A) (hB : Words B) (hM : Words M) (hn : 0 < n) (hal : A.length = n) (hbl : B.length = n) (hml : M.length = n) (hk : (k * nth M 0) % W = W - 1) (hz : 2 * n ≤ Z.length) (hz0 : val (Z.take n) = 0)
    {r : Nat} (hr : r = mU Z A B M k n n % val M) : (r * W ^ n) % val M = (val A * val B) % val M := by
  have h := mU_mod hZ hA hB hM hn hal hml hk hz hz0 n (Nat.le_refl _)
  rw [seg_whole _ _ (by omega), ← hbl, List.take_length, hbl] at h
  rw [hr, Nat.mod_mul_mod, Nat.mul_comm, h]

end
end Go.Proofs.Ytgejcabgcemllaa
