/- Powers of 2 modulo an odd number, as bigmod's rr makes them. No condition. -/
import Derived.Test.YtgejcabgcemllaaWordsD
namespace Go.Proofs.Ytgejcabgcemllaa

theorem cop_two {m : Nat} (h : m % 2 = 1) : Nat.Coprime 2 m := by
  unfold Nat.Coprime
  rw [Nat.gcd_rec, h]
  rfl
theorem cop_W {m : Nat} (h : m % 2 = 1) (n : Nat) : Nat.Coprime (W ^ n) m := by
  rw [W_pow]
  exact (cop_two h).pow_left _

theorem dvd_of_mods {a b m : Nat} (h : a % m = b % m) : m ∣ a - b := by
  have ha := Nat.div_add_mod a m
  have hb := Nat.div_add_mod b m
  refine ⟨a / m - b / m, ?_⟩
  rw [Nat.mul_sub]
  omega
theorem mods_of_dvd {a b m : Nat} (hab : b ≤ a) (h : m ∣ a - b) : a % m = b % m := by
  obtain ⟨c, hc⟩ := h
  have : a = b + m * c := by omega
  rw [this, Nat.add_mul_mod_self_left]

/-- What is the same modulo m when it is taken times a number prime to m is the same modulo m. -/
theorem mod_cancel {a b r m : Nat} (hc : Nat.Coprime r m) (h : (a * r) % m = (b * r) % m) : a % m = b % m := by
  have key : ∀ a b : Nat, b ≤ a → (a * r) % m = (b * r) % m → a % m = b % m := by
    intro a b hab h
    have hd : m ∣ a * r - b * r := dvd_of_mods h
    rw [← Nat.sub_mul] at hd
    have hd2 : m ∣ a - b := (Nat.Coprime.symm hc).dvd_of_dvd_mul_right hd
    exact mods_of_dvd hab hd2
  rcases Nat.le_total b a with hab | hab
  · exact key a b hab h
  · exact (key b a hab h.symm).symm

theorem mod_cancel_lt {a b r m : Nat} (hc : Nat.Coprime r m) (ha : a < m) (hb : b < m) (h : (a * r) % m = (b * r) % m) : a = b := by
  have := mod_cancel hc h
  rwa [Nat.mod_eq_of_lt ha, Nat.mod_eq_of_lt hb] at this

/-- 2 to the j modulo m, twice that. -/
theorem dbl_pow {m c j a : Nat} (ha : a = (c * 2 ^ j) % m) : (a + a) % m = (c * 2 ^ (j + 1)) % m := by
  rw [ha, ← Nat.add_mod, Nat.pow_succ, ← Nat.mul_assoc, Nat.mul_two]

/-- A square by Montgomery: R times 2 to the e becomes R times 2 to the 2 e. -/
theorem sq_pow {m R e x x' : Nat} (hc : Nat.Coprime R m) (hx : x = (R * 2 ^ e) % m) (hlt : x' < m) (h : (x' * R) % m = (x * x) % m) : x' = (R * 2 ^ (2 * e)) % m := by
  refine mod_cancel_lt hc hlt (Nat.mod_lt _ (by omega)) ?_
  rw [h, hx, ← Nat.mul_mod, Nat.mod_mul_mod]
  congr 1
  rw [Nat.two_mul, Nat.pow_add]
  ac_rfl

theorem blen_word_le {n : Nat} (h : n < W) : blen n ≤ 64 := by
  unfold blen
  split
  · omega
  · rename_i h0
    have := (Nat.log2_lt h0 (k := 64)).2 (by rw [W_two] at h; exact h)
    omega

theorem blen_top {M : List Nat} (wM : Words M) (hn : 0 < M.length) (htop : nth M (M.length - 1) ≠ 0) : blen (val M) = (M.length - 1) * 64 + blen (nth M (M.length - 1)) := by
  have := rowBits_eq wM M.length (Nat.le_refl _)
  rw [List.take_length] at this
  rw [← this]
  obtain ⟨k, hk⟩ : ∃ k, M.length = k + 1 := ⟨M.length - 1, by omega⟩
  rw [hk] at htop ⊢
  simp only [rowBits]
  rw [show k + 1 - 1 = k by omega] at htop ⊢
  rw [if_neg htop]

/-- The greatest power of 2 below an odd number. -/
theorem pow_below {m : Nat} (h1 : 1 < m) (hodd : m % 2 = 1) : 2 ^ (blen m - 1) < m := by
  have h := two_blen_le (n := m) (by omega)
  rcases Nat.lt_or_ge (2 ^ (blen m - 1)) m with h2 | h2
  · exact h2
  · have e : m = 2 ^ (blen m - 1) := by omega
    cases hb : blen m - 1 with
    | zero => rw [hb] at e; simp at e; omega
    | succ k => rw [hb, Nat.pow_succ] at e; omega

theorem val_set_zero (n : Nat) {i v : Nat} (hi : i < n) : val ((List.replicate n 0).set i v) = W ^ i * v := by
  rw [val_split _ (i + 1) (by simp; omega), take_succ_set (by simpa using hi)]
  have e1 : (List.replicate n 0).take i = List.replicate i 0 := by simp [Nat.min_eq_left (show i ≤ n by omega)]
  have e2 : ((List.replicate n 0).set i v).drop (i + 1) = List.replicate (n - (i + 1)) 0 := by
    rw [List.drop_set_of_lt (by omega)]
    simp
  rw [e1, e2, val_replicate0, val_replicate0]
  omega

/-- rr's first row: the highest power of 2 below the modulus. -/
theorem first_row {M : List Nat} (wM : Words M) (hn : 0 < M.length) (htop : nth M (M.length - 1) ≠ 0) :
    val ((List.replicate M.length 0).set (M.length - 1) (2 ^ ((blen (val M) - 1) % 64))) = 2 ^ (blen (val M) - 1) := by
  rw [val_set_zero _ (by omega), W_pow, ← Nat.pow_add]
  congr 1
  have h := blen_top wM hn htop
  have h64 := blen_word_le (wM.nth (M.length - 1))
  have hp : 1 ≤ blen (nth M (M.length - 1)) := by unfold blen; rw [if_neg htop]; omega
  omega

end Go.Proofs.Ytgejcabgcemllaa
