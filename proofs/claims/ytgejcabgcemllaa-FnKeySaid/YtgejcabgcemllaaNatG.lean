/- Contracts of bigmod's maybeSubtractModulus and Add. -/
import Derived.Test.YtgejcabgcemllaaNatF
namespace Go.Proofs.Ytgejcabgcemllaa
open Go.RowKit

theorem c_set' (x p y q : Nat) (L R M Q : List Nat) (w : World) (h : NatIs w x p L R) (hy : NatIs w y q M Q) (h1 : y ≠ x) (h4 : q ≠ p) :
    Calls Try.prog 59 #[ptr x, ptr y] w fun e w' =>
      ∃ p' R', e = .returned (ptr x) ∧ Mod [x, p] w w' ∧ NatIs w' x p' M R' ∧ Kept w p p' :=
  c_set x p y q L R M Q w h hy h1 (hy.head.ne h.row (by decide)) (hy.row.ne h.head (by decide)) h4

theorem Kept.ge {w : World} {p p' n : Nat} (h : Kept w p p') (hp : n ≤ p) (hn : n ≤ w.heap.size) : n ≤ p' := by
  rcases h with h | h
  · rw [h]; exact hp
  · omega

/-- Words below a modulus: what a modulus' operations work on. -/
structure Below' (L M : List Nat) : Prop where
  len : L.length = M.length
  words : Words L
  lt : val L < val M

theorem subtract_row {X M : List Nat} {c : Nat} (hX : Words X) (hM : Words M) (hl : M.length = X.length) (hc : c ≤ 1) (hb : val X + W ^ X.length * c < 2 * val M) :
    Below' (selW (max (notB (subC X M X.length)) c) X (subL X M X.length)) M ∧
      val (selW (max (notB (subC X M X.length)) c) X (subL X M X.length)) = (val X + W ^ X.length * c) % val M := by
  have hs := subC_whole hX hM hl
  have he := sub_whole hX hM hl
  have hlt := val_lt hX
  have hMl := val_lt hM
  rw [hl] at hMl
  have h01 : c = 0 ∨ c = 1 := by omega
  rcases h01 with rfl | rfl
  · rw [Nat.mul_zero, Nat.add_zero] at hb ⊢
    by_cases h : val X < val M
    · rw [if_pos h] at hs
      rw [hs, show selW (max (notB 1) 0) X (subL X M X.length) = X from rfl, Nat.mod_eq_of_lt h]
      exact ⟨⟨hl.symm, hX, h⟩, rfl⟩
    · rw [if_neg h] at hs
      rw [hs] at he ⊢
      rw [show selW (max (notB 0) 0) X (subL X M X.length) = subL X M X.length from rfl]
      have hv : val (subL X M X.length) = val X - val M := by omega
      refine ⟨⟨by rw [subL_length]; exact hl.symm, subL_words hX _, by omega⟩, ?_⟩
      rw [hv, Nat.mod_eq_sub_mod (by omega), Nat.mod_eq_of_lt (by omega)]
  · rw [Nat.mul_one] at hb ⊢
    have hXM : val X < val M := by omega
    rw [if_pos hXM] at hs
    rw [hs] at he ⊢
    rw [show selW (max (notB 1) 1) X (subL X M X.length) = subL X M X.length from rfl]
    have hv : val (subL X M X.length) = val X + W ^ X.length - val M := by omega
    refine ⟨⟨by rw [subL_length]; exact hl.symm, subL_words hX _, by omega⟩, ?_⟩
    rw [hv, Nat.mod_eq_sub_mod (by omega), Nat.mod_eq_of_lt (by omega)]

set_option maxRecDepth 100000 in
set_option maxHeartbeats 1600000 in
theorem c_maybeSub (x px m y q k c : Nat) (odd : Bool) (r : Value) (L R M Q : List Nat) (w : World) (hx : NatIs w x px L R) (hm : MHead w m y odd k r) (hy : NatIs w y q M Q)
    (wL : Words L) (wM : Words M) (hl : M.length = L.length) (hc : c ≤ 1) (hb : val L + W ^ L.length * c < 2 * val M) :
    Calls Try.prog 73 #[ptr x, u64 c, ptr m] w fun e w' =>
      ∃ L', e = .returned (.tuple #[]) ∧ Mod [px] w w' ∧ NatIs w' x px L' R ∧ Below' L' M ∧ val L' = (val L + W ^ L.length * c) % val M := by
  have hres := hide (subtract_row wL wM hl hc hb)
  have hxlt := hx.xlt; have hplt := hx.plt; have hylt := hy.xlt; have hqlt := hy.plt; have hmlt := hm.lt
  clear hb
  go_enter Try.func73, Try.ntmps73
  go_wp2_with fail
  refine (c_NewNat _).mono ?_
  rintro e w1 ⟨t, pt, rfl, m1, ht1, g1, g2⟩
  have hx1 := hx.mod m1 (by simp) (by simp)
  go_wp2_with fail
  refine (c_set' t pt x px [] _ L R _ ht1 hx1 (by omega) (by omega)).mono ?_
  rintro e w2 ⟨pt2, Rt, rfl, m2, ht2, k2⟩
  have m12 : Mod [] w w2 := Mod.trans (U := []) m1 m2 (by simp) (by simp; omega)
  have hpt2 : w.heap.size ≤ pt2 := k2.ge g2 m1.size
  have hx2 := hx.mod m12 (by simp) (by simp)
  have hm2 : MHead w2 m y odd k r := Blk.mod hm m12 (by simp)
  have hy2 := hy.mod m12 (by simp) (by simp)
  have hc2 := hm2.c0
  go_wp2_with fail
  refine (c_sub t y pt2 q L Rt M Q _ ht2 hy2 hl).mono ?_
  rintro e w3 ⟨rfl, m3, ht3⟩
  have m13 : Mod [] w w3 := Mod.trans (U := []) m12 m3 (by simp) (by simp; omega)
  have hx3 := hx.mod m13 (by simp) (by simp)
  have hb3 := subC_le L M L.length
  have hor := or_bit (notB_le (subC L M L.length)) hc
  have hle : max (notB (subC L M L.length)) c ≤ 1 := by have := notB_le (subC L M L.length); omega
  go_wp2_with fail
  refine (c_not _ hb3 _).mono ?_
  rintro e w' ⟨rfl, rfl⟩
  go_wp2_with fail
  refine (c_assign x t px pt2 _ L R _ Rt _ hx3 ht3 (subL_length _ _ _) wL (subL_words wL _) hle).mono ?_
  rintro e w4 ⟨rfl, m4, hx4⟩
  have m14 : Mod [px] w w4 := Mod.trans (U := [px]) m13 m4 (by simp) (by simp)
  go_wp2_with fail
  go_end0
  exact ⟨_, rfl, m14, hx4, hres.out⟩

set_option maxRecDepth 100000 in
set_option maxHeartbeats 1600000 in
theorem c_Add' (x px z pz m y q k : Nat) (odd : Bool) (r : Value) (L R V S M Q : List Nat) (w : World) (hx : NatIs w x px L R) (hz : NatIs w z pz V S) (hm : MHead w m y odd k r) (hy : NatIs w y q M Q)
    (bL : Below' L M) (bV : Below' V M) (wM : Words M) (hq : q ≠ px) :
    Calls Try.prog 64 #[ptr x, ptr z, ptr m] w fun e w' =>
      ∃ L', e = .returned (ptr x) ∧ Mod [px] w w' ∧ NatIs w' x px L' R ∧ Below' L' M ∧ val L' = (val L + val V) % val M := by
  have hlen : V.length = L.length := bV.len.trans bL.len.symm
  have hsum := add_whole hlen
  have hb1 := bL.lt
  have hb2 := bV.lt
  have hlen2 := addL_length L V L.length
  have hcl := addC_le bL.words bV.words L.length
  have hbound : val (addL L V L.length) + W ^ (addL L V L.length).length * addC L V L.length < 2 * val M := by rw [hlen2]; omega
  have hsum' : val (addL L V L.length) + W ^ (addL L V L.length).length * addC L V L.length = val L + val V := by rw [hlen2]; exact hsum
  have H := hide hsum'
  have HB := hide hbound
  have HL := hide (show M.length = (addL L V L.length).length by rw [hlen2]; exact bL.len.symm)
  have hmp : m ≠ px := Blk.ne hm hx.row (by decide)
  have hyp : y ≠ px := hy.head.ne hx.row (by decide)
  clear hsum hbound hsum'
  go_enter Try.func64, Try.ntmps64
  go_wp2_with fail
  refine (c_add x z px pz L R V S _ hx hz hlen bL.words bV.words).mono ?_
  rintro e w1 ⟨rfl, m1, hx1⟩
  have hm1 : MHead w1 m y odd k r := Blk.mod hm m1 (by simpa using hmp)
  have hy1 := hy.mod m1 (by simpa using hyp) (by simpa using hq)
  go_wp2_with fail
  refine (c_maybeSub x px m y q k _ odd r _ R M Q _ hx1 hm1 hy1 (addL_words bL.words _) wM HL.out hcl HB.out).mono ?_
  rintro e w2 ⟨L', rfl, m2, hx2, hbe, hv⟩
  rw [H.out] at hv
  have HV := hide hv
  have m12 : Mod [px] w w2 := Mod.trans (U := [px]) m1 m2 (by simp) (by simp)
  clear hv
  go_wp2_with fail
  go_ret
  exact ⟨L', rfl, m12, hx2, hbe, HV.out⟩

end Go.Proofs.Ytgejcabgcemllaa
