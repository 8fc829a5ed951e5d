/- Contracts of the small functions of math/bits and bigmod: what each returns for every input that its callers hand on. -/
import Derived.Test.YtgejcabgcemllaaProg
import Derived.Test.YtgejcabgcemllaaWords
import Derived.Lib.Mul64
import Derived.Laws.Bits64b
namespace Go.Proofs.Ytgejcabgcemllaa
open Go.RowKit

/-- The model's entries for math/bits.Add64 and Sub64, by their places in its list. -/
def addEnt : Array Value → Sem Value := (Extern.MathBitsCarry.rows[0]'(by decide)).2
def subEnt : Array Value → Sem Value := (Extern.MathBitsCarry.rows[1]'(by decide)).2
theorem run_addEnt (P : Program) (x y c : Nat) (hc : c ≤ 1) (w : World) :
    (addEnt #[u64 x, u64 y, u64 c]).run P w = .ok (.tuple #[u64 (addLo x y c), u64 (addHi x y c)]) w := by
  have : c = 0 ∨ c = 1 := by omega
  rcases this with rfl | rfl <;> rfl
theorem run_subEnt (P : Program) (x y c : Nat) (hc : c ≤ 1) (w : World) :
    (subEnt #[u64 x, u64 y, u64 c]).run P w = .ok (.tuple #[u64 (subLo x y c), u64 (subHi x y c)]) w := by
  have : c = 0 ∨ c = 1 := by omega
  rcases this with rfl | rfl <;> rfl
theorem callAdd (x y c : Nat) (hc : c ≤ 1) (w : World) : (callFunc 82 #[u64 x, u64 y, u64 c]).run Try.prog w = .ok (.value (.tuple #[u64 (addLo x y c), u64 (addHi x y c)])) w := by
  rw [run_callFunc_extern (e := addEnt) Try.func82 (by kernel_rfl) (by kernel_rfl) (by kernel_rfl) (by kernel_rfl), run_addEnt _ _ _ _ hc]; rfl
theorem callSub (x y c : Nat) (hc : c ≤ 1) (w : World) : (callFunc 77 #[u64 x, u64 y, u64 c]).run Try.prog w = .ok (.value (.tuple #[u64 (subLo x y c), u64 (subHi x y c)])) w := by
  rw [run_callFunc_extern (e := subEnt) Try.func77 (by kernel_rfl) (by kernel_rfl) (by kernel_rfl) (by kernel_rfl), run_subEnt _ _ _ _ hc]; rfl

set_option maxRecDepth 100000 in
theorem c_Sub (x y b : Nat) (hb : b ≤ 1) (w : World) :
    Calls Try.prog 69 #[u64 x, u64 y, u64 b] w fun e w' => e = .returned (.tuple #[u64 (subLo x y b), u64 (subHi x y b)]) ∧ w = w' := by
  have hs := callSub x y b hb
  go_enter Try.func69, Try.ntmps69
  go_wp2
  go_ret2
  exact ⟨rfl, rfl⟩
set_option maxRecDepth 100000 in
theorem c_Add (x y b : Nat) (hb : b ≤ 1) (w : World) :
    Calls Try.prog 75 #[u64 x, u64 y, u64 b] w fun e w' => e = .returned (.tuple #[u64 (addLo x y b), u64 (addHi x y b)]) ∧ w = w' := by
  have hs := callAdd x y b hb
  go_enter Try.func75, Try.ntmps75
  go_wp2
  go_ret2
  exact ⟨rfl, rfl⟩

namespace Mul64
theorem maskN (a : Nat) (ha : a < 18446744073709551616) : bits .and .u64 (a : Int) 4294967295 = ((a % 4294967296 : Nat) : Int) := by
  have h := bits_and_u64_nat a 4294967295 ha (by omega)
  have e : a &&& 4294967295 = a % 4294967296 := Nat.and_two_pow_sub_one_eq_mod a 32
  rw [e] at h
  exact h
theorem divN (a : Nat) : (a : Int) / 4294967296 = ((a / 4294967296 : Nat) : Int) := by omega
theorem mulN (a b : Nat) : (a : Int) * (b : Int) = ((a * b : Nat) : Int) := (Int.natCast_mul a b).symm
theorem addN (a b : Nat) : (a : Int) + (b : Int) = ((a + b : Nat) : Int) := (Int.natCast_add a b).symm
theorem wrapN (a : Nat) (ha : a < 18446744073709551616) : IntKind.u64.wrap (a : Int) = (a : Int) := by rw [IntKind.wrap_u64]; omega
theorem wrapM (a : Nat) : IntKind.u64.wrap (a : Int) = ((a % 18446744073709551616 : Nat) : Int) := by rw [IntKind.wrap_u64]; omega
end Mul64

set_option maxRecDepth 100000 in
set_option maxHeartbeats 1000000 in
theorem c_Mul64 (x y : Nat) (hx : x < W) (hy : y < W) (w : World) :
    Calls Try.prog 85 #[u64 x, u64 y] w fun e w' => e = .returned (.tuple #[u64 (mulHi x y), u64 (mulLo x y)]) ∧ w = w' := by
  unfold mulHi mulLo
  rw [W_eq] at *
  obtain ⟨bd, bt, bw, hhi⟩ := Lib.mul64_hi x y hx hy
  have ba := Lib.half_mul_le (a := x / 4294967296) (b := y / 4294967296) (by omega) (by omega)
  have bb := Lib.half_mul_le (a := x / 4294967296) (b := y % 4294967296) (by omega) (by omega)
  have bc := Lib.half_mul_le (a := x % 4294967296) (b := y / 4294967296) (by omega) (by omega)
  have ba' : x / 4294967296 * (y / 4294967296) < 18446744073709551616 := by omega
  have bb' : x / 4294967296 * (y % 4294967296) < 18446744073709551616 := by omega
  have bc' : x % 4294967296 * (y / 4294967296) < 18446744073709551616 := by omega
  have bh1 : x / 4294967296 * (y / 4294967296) + (x / 4294967296 * (y % 4294967296) + x % 4294967296 * (y % 4294967296) / 4294967296) / 4294967296 < 18446744073709551616 := by omega
  have bh : x / 4294967296 * (y / 4294967296) + (x / 4294967296 * (y % 4294967296) + x % 4294967296 * (y % 4294967296) / 4294967296) / 4294967296 + ((x / 4294967296 * (y % 4294967296) + x % 4294967296 * (y % 4294967296) / 4294967296) % 4294967296 + x % 4294967296 * (y / 4294967296)) / 4294967296 < 18446744073709551616 := by omega
  go_enter Try.func85, Try.ntmps85
  go_wp2
  simp only [Mul64.maskN x hx, Mul64.maskN y hy, Mul64.divN, Mul64.mulN, Mul64.addN, Mul64.wrapN _ bd, Mul64.wrapN _ bb', Mul64.wrapN _ bt, Mul64.maskN _ bt, Mul64.wrapN _ bc', Mul64.wrapN _ bw, Mul64.wrapN _ ba', Mul64.wrapN _ bh1, Mul64.wrapN _ bh, Mul64.wrapM (x * y)]
  rw [hhi]
  go_ret2
  exact ⟨rfl, rfl⟩

set_option maxRecDepth 100000 in
theorem c_Mul (x y : Nat) (hx : x < W) (hy : y < W) (w : World) :
    Calls Try.prog 80 #[u64 x, u64 y] w fun e w' => e = .returned (.tuple #[u64 (mulHi x y), u64 (mulLo x y)]) ∧ w = w' := by
  go_enter Try.func80, Try.ntmps80
  go_wp2_with (go_at_call 85; refine (c_Mul64 x y hx hy _).mono ?_; rintro e w' ⟨rfl, rfl⟩)
  go_ret2
  exact ⟨rfl, rfl⟩

/-- 1 less a bit. -/
def notB (c : Nat) : Nat := 1 - c
theorem notB_le (c : Nat) : notB c ≤ 1 := by unfold notB; omega

theorem xor_one {c : Nat} (hc : c ≤ 1) : bits .xor .u64 1 (c : Int) = ((notB c : Nat) : Int) := by
  have : c = 0 ∨ c = 1 := by omega
  rcases this with rfl | rfl <;> decide +kernel
theorem or_bit {b c : Nat} (hb : b ≤ 1) (hc : c ≤ 1) : bits .or .u64 (b : Int) (c : Int) = ((max b c : Nat) : Int) := by
  have : c = 0 ∨ c = 1 := by omega
  have : b = 0 ∨ b = 1 := by omega
  rcases this with rfl | rfl <;> rcases ‹c = 0 ∨ c = 1› with rfl | rfl <;> decide +kernel
theorem and_bit {b c : Nat} (hb : b ≤ 1) (hc : c ≤ 1) : bits .and .u64 (b : Int) (c : Int) = ((min b c : Nat) : Int) := by
  have : c = 0 ∨ c = 1 := by omega
  have : b = 0 ∨ b = 1 := by omega
  rcases this with rfl | rfl <;> rcases ‹c = 0 ∨ c = 1› with rfl | rfl <;> decide +kernel

set_option maxRecDepth 100000 in
theorem c_not (c : Nat) (hc : c ≤ 1) (w : World) : Calls Try.prog 70 #[u64 c] w fun e w' => e = .returned (u64 (notB c)) ∧ w = w' := by
  have hx := xor_one hc
  go_enter Try.func70, Try.ntmps70
  go_wp2
  go_ret
  exact ⟨rfl, rfl⟩

/-- All ones, or 0. -/
def maskB (c : Nat) : Nat := if c = 0 then 0 else W - 1
theorem neg_bit {c : Nat} (hc : c ≤ 1) : IntKind.u64.wrap (-(c : Int)) = ((maskB c : Nat) : Int) := by
  have : c = 0 ∨ c = 1 := by omega
  rcases this with rfl | rfl <;> decide +kernel

set_option maxRecDepth 100000 in
theorem c_ctMask (c : Nat) (hc : c ≤ 1) (w : World) : Calls Try.prog 83 #[u64 c] w fun e w' => e = .returned (u64 (maskB c)) ∧ w = w' := by
  have hx := neg_bit hc
  go_enter Try.func83, Try.ntmps83
  go_wp2
  go_ret
  exact ⟨rfl, rfl⟩

theorem eq_of_subs (x y : Nat) : notB (max (subHi x y 0) (subHi y x 0)) = eqB x y := by
  unfold notB subHi eqB
  split <;> split <;> split <;> omega

set_option maxRecDepth 100000 in
theorem c_ctEq (x y : Nat) (w : World) : Calls Try.prog 62 #[u64 x, u64 y] w fun e w' => e = .returned (u64 (eqB x y)) ∧ w = w' := by
  have hx := or_bit (subHi_le x y 0) (subHi_le y x 0)
  have hle : max (subHi x y 0) (subHi y x 0) ≤ 1 := by have := subHi_le x y 0; have := subHi_le y x 0; omega
  have he := hide (eq_of_subs x y)
  go_enter Try.func62, Try.ntmps62
  go_wp2_with fail
  refine (c_Sub x y 0 (by omega) _).mono ?_; rintro e w' ⟨rfl, rfl⟩
  go_wp2_with fail
  refine (c_Sub y x 0 (by omega) _).mono ?_; rintro e w' ⟨rfl, rfl⟩
  go_wp2_with fail
  refine (c_not _ hle _).mono ?_; rintro e w' ⟨rfl, rfl⟩
  go_wp2_with fail
  go_ret
  exact ⟨by rw [he.out]; rfl, rfl⟩

end Go.Proofs.Ytgejcabgcemllaa
