/- minusInverseModW is right: Newton's way doubles the bits that are right. -/
import Derived.Test.YtgejcabgcemllaaLeafB
namespace Go.Proofs.Ytgejcabgcemllaa

theorem nstep_eq (x y : Nat) : ∃ q : Int, (nstep x y : Int) = y * (2 - x * y) + W * q := by
  have hW := W_pos
  have h3 := Nat.mod_add_div (x * y) W
  have h4 := Nat.mod_lt (x * y) hW
  have h2 := Nat.mod_add_div (W + 2 - x * y % W) W
  have h1 := Nat.mod_add_div (y * ((W + 2 - x * y % W) % W)) W
  unfold nstep
  generalize hr : x * y % W = r at *
  generalize hs : (W + 2 - r) % W = s at *
  generalize hu : y * s % W = u at *
  generalize (x * y) / W = q3 at *
  generalize (W + 2 - r) / W = q2 at *
  generalize (y * s) / W = q1 at *
  have h2' : (s : Int) + W * q2 = W + 2 - r := by
    have : s + W * q2 + r = W + 2 := by omega
    exact_mod_cast (by omega : ((s + W * q2 : Nat) : Int) = (W : Int) + 2 - r)
  have h1' : (u : Int) + W * q1 = y * s := by exact_mod_cast h1
  have h3' : (r : Int) + W * q3 = x * y := by exact_mod_cast h3
  refine ⟨y * (1 - q2 + q3) - q1, ?_⟩
  grind

theorem nstep_law {x y : Nat} {c d : Int} (hc : c ∣ 1 - (x : Int) * y) (hd : d ∣ c * c) (hW : d ∣ (W : Int)) : d ∣ 1 - (x : Int) * nstep x y := by
  obtain ⟨q, hq⟩ := nstep_eq x y
  obtain ⟨a, ha⟩ := hc
  obtain ⟨b, hb⟩ := hd
  obtain ⟨e, he⟩ := hW
  refine ⟨b * a * a - e * (x * q), ?_⟩
  rw [hq]
  grind

theorem odd_sq {x : Nat} (h : x % 2 = 1) : (8 : Int) ∣ 1 - (x : Int) * x := by
  obtain ⟨k, rfl⟩ : ∃ k, x = 2 * k + 1 := ⟨x / 2, by omega⟩
  obtain ⟨j, hj⟩ : ∃ j, k * (k + 1) = 2 * j := by
    rcases Nat.mod_two_eq_zero_or_one k with h0 | h0
    · exact ⟨k / 2 * (k + 1), by rw [← Nat.mul_assoc, show 2 * (k / 2) = k by omega]⟩
    · exact ⟨k * ((k + 1) / 2), by rw [Nat.mul_left_comm, show 2 * ((k + 1) / 2) = k + 1 by omega]⟩
  refine ⟨-(j : Int), ?_⟩
  have hj' : (k : Int) * (k + 1) = 2 * j := by exact_mod_cast hj
  push_cast
  grind

theorem newton_law {x : Nat} (h : x % 2 = 1) : (W : Int) ∣ 1 - (x : Int) * newton x 5 := by
  have h0 := odd_sq h
  have h1 := nstep_law (d := 64) h0 (by decide) (by rw [W_eq]; decide)
  have h2 := nstep_law (d := 4096) h1 (by decide) (by rw [W_eq]; decide)
  have h3 := nstep_law (d := 16777216) h2 (by decide) (by rw [W_eq]; decide)
  have h4 := nstep_law (d := 281474976710656) h3 (by decide) (by rw [W_eq]; decide)
  have h5 := nstep_law (d := (W : Int)) h4 (by rw [W_eq]; decide) (Int.dvd_refl _)
  exact h5

theorem m0inv_law {x : Nat} (h : x % 2 = 1) : (m0inv x * x) % W = W - 1 := by
  obtain ⟨a, ha⟩ := newton_law h
  have hx : x % 2 = 1 := h
  have hlt : newton x 5 < W := Nat.mod_lt _ W_pos
  have hne : newton x 5 ≠ 0 := by
    intro h0
    rw [h0] at ha
    have : (W : Int) * a = 1 := by simpa using ha.symm
    have h2 : (2 : Int) ∣ 1 := ⟨9223372036854775808 * a, by rw [W_eq] at this; omega⟩
    omega
  have e : m0inv x = W - newton x 5 := by unfold m0inv; rw [Nat.mod_eq_of_lt (by omega)]
  rw [e]
  generalize newton x 5 = y at *
  have h1 : ((W - y : Nat) : Int) = (W : Int) - y := by omega
  have h2 : (((W - y) * x : Nat) : Int) = (W : Int) * (x + a - 1) + (W - 1) := by
    rw [Int.natCast_mul, h1]
    grind
  have hW := W_pos
  have h3 : (((W - y) * x % W : Nat) : Int) = (W : Int) - 1 := by
    rw [Int.natCast_emod, h2, Int.mul_add_emod_self_left, Int.emod_eq_of_lt (by omega) (by omega)]
  omega
end Go.Proofs.Ytgejcabgcemllaa
