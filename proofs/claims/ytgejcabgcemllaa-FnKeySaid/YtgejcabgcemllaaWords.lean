/- The words of 64 bits with carry and borrow, as plain functions on natural numbers, and what they come to. No condition. -/
import Derived.Test.YtgejcabgcemllaaMem
namespace Go.Proofs.Ytgejcabgcemllaa

/-- 2 to the 64. -/
def W : Nat := 18446744073709551616
theorem W_eq : W = 18446744073709551616 := rfl
theorem W_pos : 0 < W := by rw [W_eq]; omega

def addLo (x y c : Nat) : Nat := (x + y + c) % W
def addHi (x y c : Nat) : Nat := (x + y + c) / W
def subLo (x y c : Nat) : Nat := (x + W - y - c) % W
def subHi (x y c : Nat) : Nat := if x < y + c then 1 else 0
def mulLo (x y : Nat) : Nat := x * y % W
def mulHi (x y : Nat) : Nat := x * y / W

theorem addLo_lt (x y c : Nat) : addLo x y c < W := Nat.mod_lt _ W_pos
theorem subLo_lt (x y c : Nat) : subLo x y c < W := Nat.mod_lt _ W_pos
theorem mulLo_lt (x y : Nat) : mulLo x y < W := Nat.mod_lt _ W_pos
theorem addHi_le {x y c : Nat} (hx : x < W) (hy : y < W) (hc : c ≤ 1) : addHi x y c ≤ 1 := by
  unfold addHi
  rw [W_eq] at *
  omega
theorem subHi_le (x y c : Nat) : subHi x y c ≤ 1 := by unfold subHi; split <;> omega
theorem mulHi_lt {x y : Nat} (hx : x < W) (hy : y < W) : mulHi x y < W := by
  unfold mulHi
  exact Nat.div_lt_of_lt_mul (Nat.mul_lt_mul'' hx hy)
theorem add_eq (x y c : Nat) : addLo x y c + W * addHi x y c = x + y + c := Nat.mod_add_div _ _
theorem mul_eq (x y : Nat) : mulLo x y + W * mulHi x y = x * y := Nat.mod_add_div _ _
theorem sub_eq {x y c : Nat} (hx : x < W) (hy : y < W) (hc : c ≤ 1) : subLo x y c + y + c = x + W * subHi x y c := by
  unfold subLo subHi
  rw [W_eq] at *
  split <;> omega

/-- 1 where they are the same, else 0. -/
def eqB (x y : Nat) : Nat := if x = y then 1 else 0
theorem eqB_le (x y : Nat) : eqB x y ≤ 1 := by unfold eqB; split <;> omega

/-- How many bits a word has. -/
def blen (n : Nat) : Nat := if n = 0 then 0 else Nat.log2 n + 1

/-! Rows of words as numbers, the lowest first. -/
def val : List Nat → Nat
  | [] => 0
  | x :: l => x + W * val l

/-- All are words. -/
def Words (L : List Nat) : Prop := ∀ i, i < L.length → nth L i < W

theorem val_nil : val [] = 0 := rfl
theorem val_cons (x : Nat) (l : List Nat) : val (x :: l) = x + W * val l := rfl
theorem val_append (a b : List Nat) : val (a ++ b) = val a + W ^ a.length * val b := by
  induction a with
  | nil => simp [val]
  | cons x a ih => simp only [List.cons_append, val, ih, List.length_cons, Nat.pow_succ, Nat.mul_add, Nat.add_assoc, ← Nat.mul_assoc, Nat.mul_comm (W ^ a.length) W]
theorem val_snoc (a : List Nat) (x : Nat) : val (a ++ [x]) = val a + W ^ a.length * x := by simp [val_append, val]
theorem val_replicate0 (n : Nat) : val (List.replicate n 0) = 0 := by
  induction n with
  | zero => rfl
  | succ n ih => simp [List.replicate_succ, val, ih]

theorem Words.nil : Words [] := by intro i hi; simp at hi
theorem words_mem {L : List Nat} : Words L ↔ ∀ x ∈ L, x < W := by
  constructor
  · intro h x hx
    obtain ⟨i, hi, rfl⟩ := List.mem_iff_getElem.1 hx
    have := h i hi
    rwa [nth_eq _ _ hi] at this
  · intro h i hi
    rw [nth_eq _ _ hi]
    exact h _ (List.getElem_mem hi)
theorem Words.nth {L : List Nat} (h : Words L) (i : Nat) : Go.Proofs.Ytgejcabgcemllaa.nth L i < W := by
  by_cases hi : i < L.length
  · exact h i hi
  · rw [nth_ge (by omega)]; exact W_pos
theorem Words.append {a b : List Nat} (ha : Words a) (hb : Words b) : Words (a ++ b) := by
  rw [words_mem] at *
  intro x hx
  rcases List.mem_append.1 hx with h | h
  · exact ha x h
  · exact hb x h
theorem Words.set {a : List Nat} (ha : Words a) (i : Nat) {v : Nat} (hv : v < W) : Words (a.set i v) := by
  rw [words_mem] at *
  intro x hx
  rcases List.mem_or_eq_of_mem_set hx with h | h
  · exact ha x h
  · rw [h]; exact hv
theorem Words.take {a : List Nat} (ha : Words a) (i : Nat) : Words (a.take i) := by
  rw [words_mem] at *
  intro x hx
  exact ha x (List.mem_of_mem_take hx)
theorem Words.drop {a : List Nat} (ha : Words a) (i : Nat) : Words (a.drop i) := by
  rw [words_mem] at *
  intro x hx
  exact ha x (List.mem_of_mem_drop hx)
theorem Words.replicate0 (n : Nat) : Words (List.replicate n 0) := by
  intro i hi
  rw [nth_replicate0]; exact W_pos
theorem Words.cons {x : Nat} {l : List Nat} (hx : x < W) (h : Words l) : Words (x :: l) := by
  rw [words_mem] at *
  intro y hy
  rcases List.mem_cons.1 hy with h' | h'
  · rw [h']; exact hx
  · exact h y h'
theorem Words.tail {x : Nat} {l : List Nat} (h : Words (x :: l)) : x < W ∧ Words l := by
  rw [words_mem] at h
  exact ⟨h x (by simp), words_mem.2 fun y hy => h y (by simp [hy])⟩

theorem val_lt {L : List Nat} (h : Words L) : val L < W ^ L.length := by
  induction L with
  | nil => simp [val]
  | cons x l ih =>
    obtain ⟨hx, hl⟩ := h.tail
    have := ih hl
    simp only [val, List.length_cons, Nat.pow_succ]
    have h2 : W * (val l + 1) ≤ W * W ^ l.length := Nat.mul_le_mul_left _ this
    rw [Nat.mul_comm (W ^ l.length)]
    rw [Nat.mul_add] at h2
    omega

theorem val_inj {a b : List Nat} (hl : a.length = b.length) (ha : Words a) (hb : Words b) (h : val a = val b) : a = b := by
  induction a generalizing b with
  | nil => cases b with
    | nil => rfl
    | cons y b => simp at hl
  | cons x a ih => cases b with
    | nil => simp at hl
    | cons y b =>
      obtain ⟨hx, ha'⟩ := ha.tail
      obtain ⟨hy, hb'⟩ := hb.tail
      simp only [val] at h
      have hxy : x = y := by
        have h1 := congrArg (· % W) h
        simp only [Nat.add_mul_mod_self_left, Nat.mod_eq_of_lt hx, Nat.mod_eq_of_lt hy] at h1
        exact h1
      subst hxy
      have : val a = val b := Nat.eq_of_mul_eq_mul_left W_pos (by omega)
      rw [ih (by simpa using hl) ha' hb' this]

theorem val_take_succ {L : List Nat} {i : Nat} (h : i < L.length) : val (L.take (i + 1)) = val (L.take i) + W ^ i * nth L i := by
  rw [List.take_succ_eq_append_getElem h, val_snoc, nth_eq _ _ h]
  simp [Nat.min_eq_left (Nat.le_of_lt h)]

theorem val_split (L : List Nat) (i : Nat) (h : i ≤ L.length) : val L = val (L.take i) + W ^ i * val (L.drop i) := by
  conv => lhs; rw [← List.take_append_drop i L]
  rw [val_append]
  simp [Nat.min_eq_left h]

end Go.Proofs.Ytgejcabgcemllaa
