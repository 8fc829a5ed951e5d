/- rsa's decrypt. Printed by wip/mk/decr.py. The law of the keys of two of the ten primes. Euclid's way with signs: plain law. -/
import Derived.Test.YtkhopfobjijnlaaGreatDoorM37
import Derived.Deep.RegionHeld3
import Derived.Test.YtkhopfobjijnlaaGreatDoorM31
import Derived.Test.YtkhopfobjijnlaaGreatDoorM33
import Derived.Test.YtkhopfobjijnlaaGreatDoorM32
set_option linter.all false
set_option exponentiation.threshold 7000000
namespace Go.Proofs.YtkhopfobjijnlaaGreatDoor
open Go.RowKit

/-- What decrypt reckons: out of the two powers by the Chinese way. -/
def crtM (c pv qv dv iv Nv : Nat) : Nat := (subV ((c % pv) ^ (dv % (pv - 1)) % pv) ((c % qv) ^ (dv % (qv - 1)) % qv % pv) pv * iv % pv * (qv % Nv) % Nv + (c % qv) ^ (dv % (qv - 1)) % qv) % Nv
theorem subV_lt {a b m : Nat} (ha : a < m) (hb : b < m) : subV a b m < m := by unfold subV; split <;> omega

set_option maxRecDepth 100000 in
set_option maxHeartbeats 16000000 in
theorem k_decrypt (w : World) (k n en d p q pv qv dv iv Nv bP bQ qi : Nat) (EP EQ : List Nat) (A : PrivAt w k n en d p q pv qv dv iv Nv bP bQ qi EP EQ) (vC : Value) (BC : List Nat) (gC : GotB w vC BC) (lC : BC.length = (blen Nv + 7) / 8) (hc : bval BC < Nv)
    (hNv : Nv = pv * qv) (po : pv % 2 = 1) (qo : qv % 2 = 1) (p3 : 3 < pv) (q3 : 3 < qv) (bN : blen Nv ≤ 4000) :
    Calls Tryz.prog 39 #[ptr k, vC, .bool false] w fun e w' => ∃ b B, e = .returned (.tuple #[sl b 0 B.length B.length, .nilIface]) ∧ Mod [] w w' ∧ Blk w' b 5 (B.map u8) ∧ B.length = (blen Nv + 7) / 8 ∧ Bytes B ∧ bval B = crtM (bval BC) pv qv dv iv Nv := by
  have hpN : pv ≤ Nv := by rw [hNv]; exact Nat.le_mul_of_pos_right _ (by omega)
  have hqN : qv ≤ Nv := by rw [hNv]; exact Nat.le_mul_of_pos_left _ (by omega)
  have hNo : Nv % 2 = 1 := by rw [hNv, Nat.mul_mod, po, qo]
  have wpN : wlen pv ≤ wlen Nv := by have := blen_mono hpN; unfold wlen; omega
  have wqN : wlen qv ≤ wlen Nv := by have := blen_mono hqN; unfold wlen; omega
  have h0C : 0 < BC.length := by rw [lC]; exact size_pos (by omega)
  have lC8 : BC.length ≤ 8 * wlen Nv := by rw [lC]; exact fit_le (Nat.le_refl _)
  obtain ⟨⟨fl, hk⟩, hn, hp, hq, hi, rP, rQ, yP, yQ, eP, eQ, lP, lQ⟩ := A
  have HC := hide hc
  have PO := hide po
  have QO := hide qo
  have NO := hide hNo
  have EP_ := hide eP
  have EQ_ := hide eQ
  obtain ⟨cv, hcv⟩ : ∃ cv, cv = bval BC := ⟨_, rfl⟩
  rw [← hcv] at hc HC ⊢
  have HCV := hide hcv
  clear hNv po qo hNo lC eP eQ hcv
  have hz0 : Mod [] w w := Mod.refl _ _
  have bz : Mod [] w w := Mod.refl _ _
  have k0 := PKey.c0 hk
  have k1 := PKey.c1 hk
  go_enter Tryz.func39, Tryz.ntmps39
  go_wp2_with fail
  go_quiet (fail)
  clear k0 k1
  obtain ⟨w1, hw1⟩ : ∃ w1, w1 = w.drewN nq := ⟨_, rfl⟩
  have m01 : Mod [] w w1 := by rw [hw1]; exact (Mod.refl [] w).drewN _
  rw [← hw1]
  clear hw1
  replace bz := bz.then m01
  go_wp2_with fail
  refine (k_New _).mono ?_
  rintro e v1 ⟨x1, rfl, mm, n1⟩
  replace n1 := n1.mono bz.size
  have bv1 := bz.then mm
  clear mm bz
  go_wp2_with fail
  refine (k_SetBytes _ _ x1 _ _ n _ vC BC n1 (hn.mod bv1) (gC.mod bv1) (ApartN.old gC n1) (MSep.base bv1 hn n1) lC8 h0C (by rw [← HCV.out]; exact hc)).mono ?_
  rintro e v2 ⟨rfl, f, n'⟩
  rw [← HCV.out] at n'
  have nn_ := n' bv1.size
  have bv2 := f.back bv1 n1
  clear n1 n' f bv1
  have n1 := nn_
  clear nn_
  replace hz0 := (hz0.then bv2)
  replace hk := (Blk.up hk bv2)
  replace hn := (hn.mod bv2)
  replace hp := (hp.mod bv2)
  replace hq := (hq.mod bv2)
  replace hi := (hi.mod bv2)
  replace rP := (Blk.up rP bv2)
  replace rQ := (Blk.up rQ bv2)
  replace gC := (gC.mod bv2)
  clear bv2
  have cv2 : Mod [] v2 v2 := Mod.refl _ _
  have k5 := PKey.c5 (Blk.up hk cv2)
  have knil := eql_nil bP 0 EP.length EP.length v2
  have k3 := PKey.c3 (Blk.up hk cv2)
  have k4 := PKey.c4 (Blk.up hk cv2)
  go_wp2_with fail
  go_quiet (fail)
  clear k5 knil k3 k4
  obtain ⟨v3, hw1⟩ : ∃ w1, w1 = v2.drewN nq := ⟨_, rfl⟩
  have mm : Mod [] v2 v3 := by rw [hw1]; exact (Mod.refl [] v2).drewN _
  rw [← hw1]
  clear hw1
  have bv3 := cv2.then mm
  clear mm cv2
  replace hz0 := (hz0.then bv3)
  replace hk := (Blk.up hk bv3)
  replace hn := (hn.mod bv3)
  replace hp := (hp.mod bv3)
  replace hq := (hq.mod bv3)
  replace hi := (hi.mod bv3)
  replace rP := (Blk.up rP bv3)
  replace rQ := (Blk.up rQ bv3)
  replace gC := (gC.mod bv3)
  replace n1 := (n1.mod bv3)
  clear bv3
  have cv3 : Mod [] v3 v3 := Mod.refl _ _
  go_wp2_with fail
  refine (k_New _).mono ?_
  rintro e v4 ⟨x2, rfl, mm, n2⟩
  replace n2 := n2.mono cv3.size
  have bv4 := cv3.then mm
  clear mm cv3
  go_wp2_with fail
  have kc := PKey.c5 hk
  have bS : Mod [] v3 v4 := bv4
  have bS9 := bS
  go_region_held3 (fun w' => w'.cell? ⟨k, 5, none⟩ = some (sl bP 0 EP.length EP.length) ∧ Mod [] v3 w')
    (first | exact ⟨cell_up kc bv7, bv7⟩ | exact ⟨cell_up kc bv6, bv6⟩ | exact ⟨cell_up kc bv5, bv5⟩ | exact ⟨cell_up kc bS.drew, bS.drew⟩)
    (first | (go_at_call 55; refine (k_New _).mono ?_; rintro e v5 ⟨x3, rfl, mm, n3⟩; replace mm := mm.ofDrew; have s_n2_n3 := Sep.new n2 mm n3; replace n3 := n3.mono bS9.size; replace n2 := (n2.mod mm); have bv5 := bS9.then mm; clear mm bS9) | (go_at_call 61; have sx := (Sep.new n1 bv5 n2).symm; refine (k_Mod _ _ x2 _ _ _ x1 _ _ p _ bv5 hp n2 (n1.mod bv5) sx).mono ?_; rintro e v6 ⟨rfl, f, -, n'⟩; have nn_ := n'; have bv6 := f.back bv5 n2; have z_n3 := f.num s_n2_n3 n3; have t_n3 := f.sep s_n2_n3 n3; clear s_n2_n3 n3; have s_n2_n3 := t_n3; have n3 := z_n3; clear t_n3 z_n3; clear n2 n' f bv5; have n2 := nn_; clear nn_; clear sx) | (go_at_call 59; refine (k_Exp _ _ x3 _ _ _ x2 _ p _ _ _ bv6 hp PO.out n3 n2 (Nat.mod_lt _ (by omega)) (GotB.row (Blk.up rP bv6) yP) (ApartN.row (Blk.up rP bv6) _ _) lP).mono ?_; rintro e v7 ⟨rfl, f, -, n'⟩; have nn_ := n'; have bv7 := f.back bv6 n3; have z_n2 := f.num s_n2_n3.symm n2; have t_n2 := f.sep s_n2_n3.symm n2; clear s_n2_n3 n2; have s_n2_n3 := t_n2.symm; have n2 := z_n2; clear t_n2 z_n2; clear n3 n' f bv6; have n3 := nn_; clear nn_))
  clear kc bS
  rw [EP_.out] at n3
  go_wp2_with fail
  have kc := PKey.c6 hk
  have bS : Mod [] v3 v7 := bv7
  have bS9 := bS
  go_region_held3 (fun w' => w'.cell? ⟨k, 6, none⟩ = some (sl bQ 0 EQ.length EQ.length) ∧ Mod [] v3 w')
    (first | exact ⟨cell_up kc bv10, bv10⟩ | exact ⟨cell_up kc bv9, bv9⟩ | exact ⟨cell_up kc bv8, bv8⟩ | exact ⟨cell_up kc bS.drew, bS.drew⟩)
    (first | (go_at_call 55; refine (k_New _).mono ?_; rintro e v8 ⟨x4, rfl, mm, n4⟩; replace mm := mm.ofDrew; have s_n2_n4 := Sep.new n2 mm n4; have s_n3_n4 := Sep.new n3 mm n4; replace n4 := n4.mono bS9.size; replace s_n2_n3 := Sep.mod s_n2_n3 n2 n3 mm; replace n2 := (n2.mod mm); replace n3 := (n3.mod mm); have bv8 := bS9.then mm; clear mm bS9) | (go_at_call 61; have sx := (Sep.new n1 bv8 n2).symm; refine (k_Mod _ _ x2 _ _ _ x1 _ _ q _ bv8 hq n2 (n1.mod bv8) sx).mono ?_; rintro e v9 ⟨rfl, f, -, n'⟩; have nn_ := n'; have bv9 := f.back bv8 n2; have z_n3 := f.num s_n2_n3 n3; have t_n3 := f.sep s_n2_n3 n3; have z_n4 := f.num s_n2_n4 n4; have t_n4 := f.sep s_n2_n4 n4; have p_n3_n4 := f.sep2 s_n2_n3 s_n2_n4 s_n3_n4 n3 n4; clear s_n3_n4; have s_n3_n4 := p_n3_n4; clear p_n3_n4; clear s_n2_n3 n3; have s_n2_n3 := t_n3; have n3 := z_n3; clear t_n3 z_n3; clear s_n2_n4 n4; have s_n2_n4 := t_n4; have n4 := z_n4; clear t_n4 z_n4; clear n2 n' f bv8; have n2 := nn_; clear nn_; clear sx) | (go_at_call 59; refine (k_Exp _ _ x4 _ _ _ x2 _ q _ _ _ bv9 hq QO.out n4 n2 (Nat.mod_lt _ (by omega)) (GotB.row (Blk.up rQ bv9) yQ) (ApartN.row (Blk.up rQ bv9) _ _) lQ).mono ?_; rintro e v10 ⟨rfl, f, -, n'⟩; have nn_ := n'; have bv10 := f.back bv9 n4; have z_n2 := f.num s_n2_n4.symm n2; have t_n2 := f.sep s_n2_n4.symm n2; have z_n3 := f.num s_n3_n4.symm n3; have t_n3 := f.sep s_n3_n4.symm n3; have p_n2_n3 := f.sep2 s_n2_n4.symm s_n3_n4.symm s_n2_n3 n2 n3; clear s_n2_n3; have s_n2_n3 := p_n2_n3; clear p_n2_n3; clear s_n2_n4 n2; have s_n2_n4 := t_n2.symm; have n2 := z_n2; clear t_n2 z_n2; clear s_n3_n4 n3; have s_n3_n4 := t_n3.symm; have n3 := z_n3; clear t_n3 z_n3; clear n4 n' f bv9; have n4 := nn_; clear nn_))
  clear kc bS
  rw [EQ_.out] at n4
  go_wp2_with fail
  refine (k_Mod _ _ x2 _ _ _ x4 _ _ p _ bv10 hp n2 n4 s_n2_n4).mono ?_
  rintro e v11 ⟨rfl, f, -, n'⟩
  have nn_ := n'
  have bv11 := f.back bv10 n2
  have z_n3 := f.num s_n2_n3 n3
  have t_n3 := f.sep s_n2_n3 n3
  have z_n4 := f.num s_n2_n4 n4
  have t_n4 := f.sep s_n2_n4 n4
  have p_n3_n4 := f.sep2 s_n2_n3 s_n2_n4 s_n3_n4 n3 n4
  clear s_n3_n4
  have s_n3_n4 := p_n3_n4
  clear p_n3_n4
  clear s_n2_n3 n3
  have s_n2_n3 := t_n3
  have n3 := z_n3
  clear t_n3 z_n3
  clear s_n2_n4 n4
  have s_n2_n4 := t_n4
  have n4 := z_n4
  clear t_n4 z_n4
  clear n2 n' f bv10
  have n2 := nn_
  clear nn_
  go_wp2_with fail
  refine (k_Sub _ _ x3 _ p _ _ x2 _ bv11 hp n3 n2 (by have := Nat.mod_lt ((cv % qv) ^ (dv % (qv - 1)) % qv) (show 0 < pv by omega); omega)).mono ?_
  rintro e v12 ⟨rfl, f, -, n'⟩
  have nn_ := n'
  have bv12 := f.back bv11 n3
  have z_n2 := f.num s_n2_n3.symm n2
  have t_n2 := f.sep s_n2_n3.symm n2
  have z_n4 := f.num s_n3_n4 n4
  have t_n4 := f.sep s_n3_n4 n4
  have p_n2_n4 := f.sep2 s_n2_n3.symm s_n3_n4 s_n2_n4 n2 n4
  clear s_n2_n4
  have s_n2_n4 := p_n2_n4
  clear p_n2_n4
  clear s_n2_n3 n2
  have s_n2_n3 := t_n2.symm
  have n2 := z_n2
  clear t_n2 z_n2
  clear s_n3_n4 n4
  have s_n3_n4 := t_n4
  have n4 := z_n4
  clear t_n4 z_n4
  clear n3 n' f bv11
  have n3 := nn_
  clear nn_
  have kc := PKey.c7 (Blk.up hk bv12)
  go_wp2_with fail
  refine (k_Mul _ _ x3 _ p _ _ qi _ bv12 hp PO.out n3 (hi.mod bv12) (subV_lt (Nat.mod_lt _ (by omega)) (Nat.mod_lt _ (by omega)))).mono ?_
  rintro e v13 ⟨rfl, f, -, n'⟩
  have nn_ := n'
  have bv13 := f.back bv12 n3
  have z_n2 := f.num s_n2_n3.symm n2
  have t_n2 := f.sep s_n2_n3.symm n2
  have z_n4 := f.num s_n3_n4 n4
  have t_n4 := f.sep s_n3_n4 n4
  have p_n2_n4 := f.sep2 s_n2_n3.symm s_n3_n4 s_n2_n4 n2 n4
  clear s_n2_n4
  have s_n2_n4 := p_n2_n4
  clear p_n2_n4
  clear s_n2_n3 n2
  have s_n2_n3 := t_n2.symm
  have n2 := z_n2
  clear t_n2 z_n2
  clear s_n3_n4 n4
  have s_n3_n4 := t_n4
  have n4 := z_n4
  clear t_n4 z_n4
  clear n3 n' f bv12
  have n3 := nn_
  clear nn_
  clear kc
  go_wp2_with fail
  refine (k_Expand _ _ x3 _ _ n _ n3 (hn.mod bv13) wpN).mono ?_
  rintro e v14 ⟨rfl, f, n'⟩
  have nn_ := n' bv13.size
  have bv14 := f.back bv13 n3
  have z_n2 := f.num s_n2_n3.symm n2
  have t_n2 := f.sep s_n2_n3.symm n2
  have z_n4 := f.num s_n3_n4 n4
  have t_n4 := f.sep s_n3_n4 n4
  have p_n2_n4 := f.sep2 s_n2_n3.symm s_n3_n4 s_n2_n4 n2 n4
  clear s_n2_n4
  have s_n2_n4 := p_n2_n4
  clear p_n2_n4
  clear s_n2_n3 n2
  have s_n2_n3 := t_n2.symm
  have n2 := z_n2
  clear t_n2 z_n2
  clear s_n3_n4 n4
  have s_n3_n4 := t_n4
  have n4 := z_n4
  clear t_n4 z_n4
  clear n3 n' f bv13
  have n3 := nn_
  clear nn_
  go_wp2_with fail
  refine (k_Nat _ q _ (hq.mod bv14)).mono ?_
  rintro e v15 ⟨t5, rfl, mm, nt⟩
  have s_n2_nt := Sep.new n2 mm nt
  replace nt := nt.mono bv14.size
  replace s_n2_n3 := Sep.mod s_n2_n3 n2 n3 mm
  replace s_n2_n4 := Sep.mod s_n2_n4 n2 n4 mm
  replace s_n3_n4 := Sep.mod s_n3_n4 n3 n4 mm
  replace n2 := (n2.mod mm)
  replace n3 := (n3.mod mm)
  replace n4 := (n4.mod mm)
  have bv15 := bv14.then mm
  clear mm bv14
  go_wp2_with fail
  refine (k_Mod _ _ x2 _ _ _ t5 _ _ n _ bv15 hn n2 nt s_n2_nt).mono ?_
  rintro e v16 ⟨rfl, f, -, n'⟩
  have nn_ := n'
  have bv16 := f.back bv15 n2
  have z_n3 := f.num s_n2_n3 n3
  have t_n3 := f.sep s_n2_n3 n3
  have z_n4 := f.num s_n2_n4 n4
  have t_n4 := f.sep s_n2_n4 n4
  have p_n3_n4 := f.sep2 s_n2_n3 s_n2_n4 s_n3_n4 n3 n4
  clear s_n3_n4
  have s_n3_n4 := p_n3_n4
  clear p_n3_n4
  clear s_n2_n3 n3
  have s_n2_n3 := t_n3
  have n3 := z_n3
  clear t_n3 z_n3
  clear s_n2_n4 n4
  have s_n2_n4 := t_n4
  have n4 := z_n4
  clear t_n4 z_n4
  clear n2 n' f bv15
  have n2 := nn_
  clear nn_
  clear nt
  clear s_n2_nt
  go_wp2_with fail
  refine (k_Mul _ _ x3 _ n _ _ x2 _ bv16 hn NO.out n3 n2 (Nat.lt_of_lt_of_le (Nat.mod_lt _ (by omega)) hpN)).mono ?_
  rintro e v17 ⟨rfl, f, -, n'⟩
  have nn_ := n'
  have bv17 := f.back bv16 n3
  have z_n2 := f.num s_n2_n3.symm n2
  have t_n2 := f.sep s_n2_n3.symm n2
  have z_n4 := f.num s_n3_n4 n4
  have t_n4 := f.sep s_n3_n4 n4
  have p_n2_n4 := f.sep2 s_n2_n3.symm s_n3_n4 s_n2_n4 n2 n4
  clear s_n2_n4
  have s_n2_n4 := p_n2_n4
  clear p_n2_n4
  clear s_n2_n3 n2
  have s_n2_n3 := t_n2.symm
  have n2 := z_n2
  clear t_n2 z_n2
  clear s_n3_n4 n4
  have s_n3_n4 := t_n4
  have n4 := z_n4
  clear t_n4 z_n4
  clear n3 n' f bv16
  have n3 := nn_
  clear nn_
  go_wp2_with fail
  refine (k_Expand _ _ x4 _ _ n _ n4 (hn.mod bv17) wqN).mono ?_
  rintro e v18 ⟨rfl, f, n'⟩
  have nn_ := n' bv17.size
  have bv18 := f.back bv17 n4
  have z_n2 := f.num s_n2_n4.symm n2
  have t_n2 := f.sep s_n2_n4.symm n2
  have z_n3 := f.num s_n3_n4.symm n3
  have t_n3 := f.sep s_n3_n4.symm n3
  have p_n2_n3 := f.sep2 s_n2_n4.symm s_n3_n4.symm s_n2_n3 n2 n3
  clear s_n2_n3
  have s_n2_n3 := p_n2_n3
  clear p_n2_n3
  clear s_n2_n4 n2
  have s_n2_n4 := t_n2.symm
  have n2 := z_n2
  clear t_n2 z_n2
  clear s_n3_n4 n3
  have s_n3_n4 := t_n3.symm
  have n3 := z_n3
  clear t_n3 z_n3
  clear n4 n' f bv17
  have n4 := nn_
  clear nn_
  go_wp2_with fail
  refine (k_Add _ _ x3 _ n _ _ x4 _ bv18 hn n3 n4 (Nat.mod_lt _ (by omega)) (Nat.lt_of_lt_of_le (Nat.mod_lt _ (by omega)) hqN)).mono ?_
  rintro e v19 ⟨rfl, f, -, n'⟩
  have nn_ := n'
  have bv19 := f.back bv18 n3
  have z_n2 := f.num s_n2_n3.symm n2
  have t_n2 := f.sep s_n2_n3.symm n2
  have z_n4 := f.num s_n3_n4 n4
  have t_n4 := f.sep s_n3_n4 n4
  have p_n2_n4 := f.sep2 s_n2_n3.symm s_n3_n4 s_n2_n4 n2 n4
  clear s_n2_n4
  have s_n2_n4 := p_n2_n4
  clear p_n2_n4
  clear s_n2_n3 n2
  have s_n2_n3 := t_n2.symm
  have n2 := z_n2
  clear t_n2 z_n2
  clear s_n3_n4 n4
  have s_n3_n4 := t_n4
  have n4 := z_n4
  clear t_n4 z_n4
  clear n3 n' f bv18
  have n3 := nn_
  clear nn_
  go_wp2_with fail
  refine (k_Bytes _ _ x3 _ _ n _ n3 (hn.mod bv19) (lt_size (Nat.mod_lt _ (by omega))) (by omega)).mono ?_
  rintro e v20 ⟨bkR, BR, rfl, mm, rwR, gbR, lB, hBR, eB⟩
  clear n3
  replace n2 := (n2.mod mm)
  replace n4 := (n4.mod mm)
  have bv20 := bv19.then mm
  clear mm bv19
  have LBR := hide lB
  have EBR := hide eB
  clear lB eB gbR
  go_wp2_with fail
  go_ret2
  exact ⟨bkR, BR, rfl, (hz0.then bv20), rwR, LBR.out, hBR, EBR.out⟩
end Go.Proofs.YtkhopfobjijnlaaGreatDoor
namespace Go.Proofs.YtkhopfobjijnlaaGreatDoor
set_option exponentiation.threshold 7000000
open Go.RowKit

theorem prs_prime : ∀ i, i < 10 → Prm (nth prs i) := by
  intro i hi
  have e : ∀ {a b : Nat}, Prm a → a = b → Prm b := fun h h' => h' ▸ h
  rcases (by omega : i = 0 ∨ i = 1 ∨ i = 2 ∨ i = 3 ∨ i = 4 ∨ i = 5 ∨ i = 6 ∨ i = 7 ∨ i = 8 ∨ i = 9) with rfl | rfl | rfl | rfl | rfl | rfl | rfl | rfl | rfl | rfl
  · exact e prime_p521 (by decide +kernel)
  · exact e prime_p607 (by decide +kernel)
  · exact e prime_25519 (by decide +kernel)
  · exact e prime_p256 (by decide +kernel)
  · exact e prime_p384 (by decide +kernel)
  · exact e prime_ed448 (by decide +kernel)
  · exact e prime_k256 (by decide +kernel)
  · exact e prime_p224 (by decide +kernel)
  · exact e prime_p192 (by decide +kernel)
  · exact e prime_p414 (by decide +kernel)
/-- What both primes less one have in common with the rest: the exponents' modulus. -/
def leastV (p q : Nat) : Nat := (p - 1) * (q - 1) / Nat.gcd (p - 1) (q - 1)
theorem prs_pairs : ∀ i, i < 10 → ∀ j, j < 10 → i ≠ j → nth prs i ≠ nth prs j ∧ 2 ^ (Nat.log2 (nth prs i * nth prs j) / 2 + 40) ≤ leastV (nth prs i) (nth prs j) ∧
    Nat.log2 (nth prs i * nth prs j) / 2 < Nat.log2 (if nth prs i ≤ nth prs j then nth prs j - nth prs i else nth prs i - nth prs j) + 90 := by decide +kernel
theorem leastV_dvd (p q : Nat) : (p - 1) ∣ leastV p q ∧ (q - 1) ∣ leastV p q := by
  unfold leastV
  constructor
  · rw [Nat.mul_div_assoc _ (Nat.gcd_dvd_right _ _)]; exact Nat.dvd_mul_right _ _
  · rw [Nat.mul_comm, Nat.mul_div_assoc _ (Nat.gcd_dvd_left _ _)]; exact Nat.dvd_mul_right _ _
theorem leastV_le (p q : Nat) : leastV p q ≤ (p - 1) * (q - 1) := Nat.div_le_self _ _
theorem blen_log {n : Nat} (h : n ≠ 0) : blen n = Nat.log2 n + 1 := if_neg h
theorem nth_prs {i : Nat} (h : i < 10) : nth prs i ∈ prs := by rw [nth_eq _ _ (by rw [prs_length]; exact h)]; exact List.getElem_mem _

/-- All that is needed of a key. -/
structure KeyFacts (p q e d : Nat) : Prop where
  kl : KeyLaw p q e d ((q % p) ^ (p - 1 - 1) % p)
  bN : blen (p * q) ≤ 1214
  bN2 : 300 ≤ blen (p * q)
  bp : blen p ≤ 607
  bq : blen q ≤ 607
  d0 : d ≠ 0
  law : ∀ c, crtM c p q d ((q % p) ^ (p - 1 - 1) % p) (p * q) = c ^ d % (p * q)

theorem crtM_eq (c p q d qi N : Nat) (hp : 0 < p) : crtM c p q d qi N = crtV p q N c (d % (p - 1)) (d % (q - 1)) qi := by
  unfold crtM crtV
  have h1 := Nat.mod_lt ((c % p) ^ (d % (p - 1))) hp
  have h2 := Nat.mod_lt ((c % q) ^ (d % (q - 1)) % q) hp
  generalize (c % p) ^ (d % (p - 1)) % p = x at *
  generalize (c % q) ^ (d % (q - 1)) % q = y at *
  have e : subV x (y % p) p = (x + p - y % p) % p := by
    unfold subV
    by_cases h : y % p ≤ x
    · rw [if_pos h, show x + p - y % p = (x - y % p) + p by omega, Nat.add_mod_right, Nat.mod_eq_of_lt (show x - y % p < p by omega)]
    · rw [if_neg h, Nat.mod_eq_of_lt (show x + p - y % p < p by omega)]
  rw [e]

theorem key_facts {i j e d : Nat} (hi : i < 10) (hj : j < 10) (hij : i ≠ j) (e3 : 3 ≤ e) (eo : e % 2 = 1) (eb : e ≤ 2147483647) (hd : d < leastV (nth prs i) (nth prs j)) (hinv : e * d % leastV (nth prs i) (nth prs j) = 1) : KeyFacts (nth prs i) (nth prs j) e d := by
  obtain ⟨hne, hlong, hnear⟩ := prs_pairs i hi j hj hij
  have hP := prs_prime i hi
  have hQ := prs_prime j hj
  obtain ⟨p1, p2, p3⟩ := prs_ok _ (nth_prs hi)
  obtain ⟨q1, q2, q3⟩ := prs_ok _ (nth_prs hj)
  generalize nth prs i = p at *
  generalize nth prs j = q at *
  have h190 : 2147483648 * 2 ^ 159 = 2 ^ 190 := by decide +kernel
  have h159 : 1 ≤ 2 ^ 159 := Nat.one_le_two_pow
  have hbig : 2147483648 ≤ 2 ^ 190 := by rw [← h190]; omega
  obtain ⟨T, hT⟩ : ∃ T, T = 2 ^ 190 := ⟨_, rfl⟩
  rw [← hT] at p1 q1 h190 hbig
  have HT := hide hT
  clear hT
  obtain ⟨dv1, dv2⟩ := leastV_dvd p q
  have hle := leastV_le p q
  have hpq : (p - 1) * (q - 1) ≤ p * q := Nat.mul_le_mul (by omega) (by omega)
  have hpq2 : (p - 1) * (q - 1) < p * q := by
    have h1 : (p - 1) * (q - 1) ≤ (p - 1) * q := Nat.mul_le_mul_left _ (by omega)
    have h2 : (p - 1) * q < p * q := (Nat.mul_lt_mul_right (by omega)).2 (by omega)
    omega
  have m1 : e * d % (p - 1) = 1 := by rw [← Nat.mod_mod_of_dvd _ dv1, hinv]; exact Nat.mod_eq_of_lt (by omega)
  have m2 : e * d % (q - 1) = 1 := by rw [← Nat.mod_mod_of_dvd _ dv2, hinv]; exact Nat.mod_eq_of_lt (by omega)
  have r1 : e * (d % (p - 1)) % (p - 1) = 1 := by rw [Nat.mul_mod_mod]; exact m1
  have r2 : e * (d % (q - 1)) % (q - 1) = 1 := by rw [Nat.mul_mod_mod]; exact m2
  have n1 : d % (p - 1) ≠ 0 := by intro h; rw [h, Nat.mul_zero, Nat.zero_mod] at r1; omega
  have n2 : d % (q - 1) ≠ 0 := by intro h; rw [h, Nat.mul_zero, Nat.zero_mod] at r2; omega
  have hd0 : d ≠ 0 := by intro h; rw [h, Nat.zero_mod] at n1; exact n1 rfl
  have hinvp : (q % p) ^ (p - 1 - 1) % p * q % p = 1 := by rw [show p - 1 - 1 = p - 2 by omega]; exact hP.inv_pow hQ hne
  have bp : blen p ≤ 607 := blen_le p2
  have bq : blen q ≤ 607 := blen_le q2
  have hN0 : p * q ≠ 0 := by have := Nat.mul_pos (show 0 < p by omega) (show 0 < q by omega); omega
  have bN : blen (p * q) ≤ 1214 := by
    refine blen_le ?_
    rw [show (1214 : Nat) = 607 + 607 by rfl, Nat.pow_add]
    exact Nat.mul_lt_mul'' p2 q2
  have elarge : leastV p q + 1 ≤ e * d := by
    have hdm := Nat.div_add_mod (e * d) (leastV p q)
    rw [hinv] at hdm
    have h3 : 3 * 1 ≤ e * d := Nat.mul_le_mul e3 (by omega)
    have hk : e * d / leastV p q ≠ 0 := by intro h; rw [h, Nat.mul_zero, Nat.zero_add] at hdm; rw [← hdm] at h3; exact absurd h3 (by decide)
    have : leastV p q * 1 ≤ leastV p q * (e * d / leastV p q) := Nat.mul_le_mul_left _ (Nat.pos_of_ne_zero hk)
    omega
  have dlarge : 2 ^ (Nat.log2 (p * q) / 2 + 9) ≤ d := by
    apply Classical.byContradiction
    intro h
    have h1 : e * d ≤ 2 ^ 31 * 2 ^ (Nat.log2 (p * q) / 2 + 9) := Nat.mul_le_mul (by omega) (by omega)
    rw [← Nat.pow_add, show 31 + (Nat.log2 (p * q) / 2 + 9) = Nat.log2 (p * q) / 2 + 40 by omega] at h1
    omega
  have bd : Nat.log2 (p * q) / 2 + 9 < blen d := by
    have h1 := lt_two_blen d
    exact (Nat.pow_lt_pow_iff_right (by omega)).1 (Nat.lt_of_le_of_lt dlarge h1)
  have bN2 : 300 ≤ blen (p * q) := by
    apply Classical.byContradiction
    intro h
    have h1 := lt_two_blen (p * q)
    have h2 : 2 ^ blen (p * q) ≤ 2 ^ 300 := Nat.pow_le_pow_right (by omega) (by omega)
    have h3 : T * T ≤ p * q := Nat.mul_le_mul (by omega) (by omega)
    rw [HT.out] at h3
    have h4 : 2 ^ 300 < 2 ^ 190 * 2 ^ 190 := by decide +kernel
    exact absurd (Nat.lt_of_lt_of_le (Nat.lt_of_lt_of_le h1 h2) (Nat.le_of_lt (Nat.lt_of_lt_of_le h4 h3))) (Nat.lt_irrefl _)
  refine ⟨⟨by omega, by omega, p3, q3, ?_, ?_, by omega, by omega, eo, eb, by omega, by omega, by omega, r1, r2, ⟨Nat.mod_lt _ (by omega), ?_⟩, ?_, ?_, hne⟩, bN, bN2, bp, bq, hd0, fun c => ?_⟩
  · unfold wlen; omega
  · unfold wlen; omega
  · rw [Nat.mod_mul_mod, Nat.mul_comm]; exact hinvp
  · rw [blen_log hN0, blen_log (by split <;> omega)]
    omega
  · rw [blen_log hN0]; omega
  · rw [crtM_eq _ _ _ _ _ _ (by omega)]
    exact crtV_eq hP hQ hne n1 n2 hinvp
end Go.Proofs.YtkhopfobjijnlaaGreatDoor
namespace Go.Proofs.YtkhopfobjijnlaaGreatDoor

/-- What the rounds of Euclid's way keep. -/
structure BezAt (a b x y : Nat) (p q r s : Int) : Prop where
  ex : p * a + q * b = x
  ey : r * a + s * b = y
  gcd : Nat.gcd x y = Nat.gcd a b
  sp : (0 ≤ p ∧ r ≤ 0) ∨ (p ≤ 0 ∧ 0 ≤ r)
  sq : (0 ≤ q ∧ s ≤ 0) ∨ (q ≤ 0 ∧ 0 ≤ s)
  bp : r.natAbs * x + p.natAbs * y = b
  bq : s.natAbs * x + q.natAbs * y = a
  lp : p.natAbs ≤ b + 1 ∧ r.natAbs ≤ b + 1
  lq : q.natAbs ≤ a + 1 ∧ s.natAbs ≤ a + 1
theorem BezAt.start (a b : Nat) : BezAt a b a b 1 0 0 1 :=
  ⟨by simp, by simp, rfl, by omega, by omega, by simp, by simp, by simp, by simp⟩
theorem natAbs_step {p r : Int} (k : Nat) (h : (0 ≤ p ∧ r ≤ 0) ∨ (p ≤ 0 ∧ 0 ≤ r)) : (p - k * r).natAbs = p.natAbs + k * r.natAbs ∧ ((0 ≤ r ∧ p - k * r ≤ 0) ∨ (r ≤ 0 ∧ 0 ≤ p - k * r)) := by
  have hk : (0 : Int) ≤ k := by omega
  rcases h with ⟨h1, h2⟩ | ⟨h1, h2⟩
  · obtain ⟨u, rfl⟩ : ∃ u : Nat, p = u := ⟨p.toNat, by omega⟩
    obtain ⟨v, rfl⟩ : ∃ v : Nat, r = -v := ⟨(-r).toNat, by omega⟩
    have e : (u : Int) - k * -v = ((u + k * v : Nat) : Int) := by simp [Int.mul_neg]
    rw [e]
    refine ⟨by rw [Int.natAbs_natCast, Int.natAbs_neg, Int.natAbs_natCast, Int.natAbs_natCast], .inr ⟨by omega, by omega⟩⟩
  · obtain ⟨u, rfl⟩ : ∃ u : Nat, p = -u := ⟨(-p).toNat, by omega⟩
    obtain ⟨v, rfl⟩ : ∃ v : Nat, r = v := ⟨r.toNat, by omega⟩
    have e : -(u : Int) - k * v = -((u + k * v : Nat) : Int) := by simp; omega
    rw [e]
    refine ⟨by rw [Int.natAbs_neg, Int.natAbs_neg, Int.natAbs_natCast, Int.natAbs_natCast, Int.natAbs_natCast], .inl ⟨by omega, by omega⟩⟩
theorem BezAt.next {a b x y : Nat} {p q r s : Int} (h : BezAt a b x y p q r s) (hy : 0 < y) : BezAt a b y (x % y) r s (p - (x / y : Nat) * r) (q - (x / y : Nat) * s) := by
  obtain ⟨n1, s1⟩ := natAbs_step (x / y) h.sp
  obtain ⟨n2, s2⟩ := natAbs_step (x / y) h.sq
  have hx := Nat.div_add_mod x y
  have h1 := h.bp
  have h2 := h.bq
  have b1 : (p - (x / y : Nat) * r).natAbs * y + r.natAbs * (x % y) = b := by
    rw [n1, ← h1]
    generalize x / y = k at *
    generalize x % y = m at *
    rw [← hx]
    grind
  have b2 : (q - (x / y : Nat) * s).natAbs * y + s.natAbs * (x % y) = a := by
    rw [n2, ← h2]
    generalize x / y = k at *
    generalize x % y = m at *
    rw [← hx]
    grind
  refine ⟨h.ey, ?_, ?_, s1, s2, b1, b2, ⟨h.lp.2, ?_⟩, ⟨h.lq.2, ?_⟩⟩
  · have e1 := h.ex
    have e2 := h.ey
    have e3 : ((x % y : Nat) : Int) = x - y * (x / y : Nat) := by
      have : (x : Int) = ((y * (x / y) + x % y : Nat) : Int) := by rw [hx]
      rw [Int.natCast_add, Int.natCast_mul] at this
      omega
    rw [e3, ← e1, ← e2]
    generalize ((x / y : Nat) : Int) = k
    grind
  · rw [← h.gcd, Nat.gcd_comm x y, Nat.gcd_rec y x, Nat.gcd_comm]
  · have : (p - (x / y : Nat) * r).natAbs * 1 ≤ (p - (x / y : Nat) * r).natAbs * y := Nat.mul_le_mul_left _ hy
    omega
  · have : (q - (x / y : Nat) * s).natAbs * 1 ≤ (q - (x / y : Nat) * s).natAbs * y := Nat.mul_le_mul_left _ hy
    omega
/-- The product in a round is small too. -/
theorem BezAt.small {a b x y : Nat} {p q r s : Int} (h : BezAt a b x y p q r s) : (x / y) * r.natAbs ≤ b ∧ (x / y) * s.natAbs ≤ a := by
  have hx := Nat.div_mul_le_self x y
  have h1 := h.bp
  have h2 := h.bq
  have h3 : x / y ≤ x := Nat.div_le_self _ _
  have h4 : r.natAbs * (x / y) ≤ r.natAbs * x := Nat.mul_le_mul_left _ h3
  have h5 : s.natAbs * (x / y) ≤ s.natAbs * x := Nat.mul_le_mul_left _ h3
  rw [Nat.mul_comm] at h4 h5
  omega
end Go.Proofs.YtkhopfobjijnlaaGreatDoor
