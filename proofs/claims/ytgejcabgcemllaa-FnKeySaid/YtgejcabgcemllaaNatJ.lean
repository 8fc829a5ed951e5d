/- bigmod's montgomeryMul at every modulus; BitLen of a modulus. -/
import Derived.Test.YtgejcabgcemllaaNatI0
import Derived.Test.YtgejcabgcemllaaNatI1
import Derived.Test.YtgejcabgcemllaaNatI2
import Derived.Test.YtgejcabgcemllaaNatI3
namespace Go.Proofs.Ytgejcabgcemllaa
open Go.RowKit

theorem c_montMul (x px a pa b pb m y q k : Nat) (odd : Bool) (r : Value) (L R A Ra B Rb M Q : List Nat) (w : World) (hx : NatIs w x px L R) (ha : NatIs w a pa A Ra) (hb : NatIs w b pb B Rb) (hm : MHead w m y odd k r) (hy : NatIs w y q M Q)
    (bA : Below' A M) (hbl : B.length = M.length) (wB : Words B) (wM : Words M) (hn : 0 < M.length) (hnb : M.length ≤ 20000) (hk : (k * nth M 0) % W = W - 1) (hyx : y ≠ x) (hq : q ≠ px) :
    Calls Try.prog 65 #[ptr x, ptr a, ptr b, ptr m] w fun e w' =>
      ∃ p' X R', e = .returned (ptr x) ∧ Mod [x, px] w w' ∧ NatIs w' x p' X R' ∧ Kept w px p' ∧ MontIs X A B M := by
  by_cases h16 : M.length = 16
  · exact c_mont16 x px a pa b pb m y q k odd r L R A Ra B Rb M Q w hx ha hb hm hy (bA.len.trans h16) (hbl.trans h16) h16 bA.words wB wM bA.lt hk hyx hq
  by_cases h24 : M.length = 24
  · exact c_mont24 x px a pa b pb m y q k odd r L R A Ra B Rb M Q w hx ha hb hm hy (bA.len.trans h24) (hbl.trans h24) h24 bA.words wB wM bA.lt hk hyx hq
  by_cases h32 : M.length = 32
  · exact c_mont32 x px a pa b pb m y q k odd r L R A Ra B Rb M Q w hx ha hb hm hy (bA.len.trans h32) (hbl.trans h32) h32 bA.words wB wM bA.lt hk hyx hq
  exact c_mont_any M.length hn hnb (by simp; omega) (by simp; omega) (by simp; omega) x px a pa b pb m y q k odd r L R A Ra B Rb M Q w hx ha hb hm hy bA.len hbl rfl bA.words wB wM bA.lt hk hyx hq

set_option maxRecDepth 100000 in
theorem c_BitLen (m y q k : Nat) (odd : Bool) (r : Value) (M Q : List Nat) (w : World) (hm : MHead w m y odd k r) (hy : NatIs w y q M Q) (wM : Words M) :
    Calls Try.prog 51 #[ptr m] w fun e w' => e = .returned (i64 (blen (val M))) ∧ w = w' := by
  have hc := hm.c0
  go_enter Try.func51, Try.ntmps51
  go_wp2_with fail
  refine (c_BitLenVarTime y q M Q _ hy wM).mono ?_; rintro e w' ⟨rfl, rfl⟩
  go_wp2_with fail
  go_ret
  exact ⟨rfl, rfl⟩

end Go.Proofs.Ytgejcabgcemllaa
