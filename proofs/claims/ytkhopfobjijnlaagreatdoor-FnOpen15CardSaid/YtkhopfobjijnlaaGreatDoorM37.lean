/- rsa's checkPrivateKey: the head, and all parts joined. Printed by wip/mk/priv.py. rsa's newPrivateKey. Printed by wip/mk/newp.py. -/
import Derived.Test.YtkhopfobjijnlaaGreatDoorM35
import Derived.Test.YtkhopfobjijnlaaGreatDoorM36
import Derived.Deep.DeepCutAuto
set_option linter.all false
set_option exponentiation.threshold 7000000
namespace Go.Proofs.YtkhopfobjijnlaaGreatDoor
open Go.RowKit

set_option maxRecDepth 1000000 in
set_option maxHeartbeats 16000000 in
theorem k_checkPriv (w0 w : World) (k n en d p q qi pv qv dv iv Nv bP bQ : Nat) (EP EQ : List Nat) (fl : Bool) (h0 : Mod [] w0 w) (gk : w0.heap.size ≤ k)
    (hk : PKey w k n en d p q (sl bP 0 EP.length EP.length) (sl bQ 0 EQ.length EQ.length) qi fl) (hNv : Nv = pv * qv)
    (hn : MdAt w0 n Nv) (hp : MdAt w0 p pv) (hq : MdAt w0 q qv) (hd : NumAt w0 0 d (wlen Nv) dv) (hi : NumAt w0 0 qi (wlen pv) iv)
    (rP : Blk w0 bP 5 (EP.map u8)) (rQ : Blk w0 bQ 5 (EQ.map u8)) (yP : Bytes EP) (yQ : Bytes EQ) (lP : EP.length = (blen (pv - 1) + 7) / 8) (lQ : EQ.length = (blen (qv - 1) + 7) / 8)
    (eP : bval EP = dv % (pv - 1)) (eQ : bval EQ = dv % (qv - 1)) (KL : KeyLaw pv qv en dv iv) :
    Calls Tryz.prog 85 #[ptr k] w fun e w' => e = .returned .nilIface ∧ Mod [] w0 w' ∧ ∃ fl, PKey w' k n en d p q (sl bP 0 EP.length EP.length) (sl bQ 0 EQ.length EQ.length) qi fl := by
  have p3 := KL.p3
  have q3 := KL.q3
  have hNo : Nv % 2 = 1 := by rw [hNv, Nat.mul_mod, KL.po, KL.qo]
  have hpN : pv < Nv := by rw [hNv]; have h := (Nat.mul_lt_mul_left (a := pv) (b := 1) (c := qv) (by omega)).2 (by omega); omega
  have hqN : qv < Nv := by rw [hNv]; have h := (Nat.mul_lt_mul_right (a := qv) (b := 1) (c := pv) (by omega)).2 (by omega); omega
  have blN : blen Nv ≤ 4000 := by rw [hNv]; exact KL.nl
  have blp : blen pv ≤ 4000 := Nat.le_trans (blen_mono (Nat.le_of_lt hpN)) blN
  have blq : blen qv ≤ 4000 := Nat.le_trans (blen_mono (Nat.le_of_lt hqN)) blN
  have HK := hide (show KOk pv qv en dv iv Nv EP EQ from ⟨hNo, hpN, hqN, hNv, lP, lQ, eP, eQ, yP, yQ, KL, blN, blp, blq⟩)
  have hB : KPB w0 k n en d p q qi pv qv dv iv Nv bP bQ EP EQ := k_privB w0 k n en d p q qi pv qv dv iv Nv bP bQ EP EQ (k_privC w0 k n en d p q qi pv qv dv iv Nv bP bQ EP EQ (k_privD w0 k n en d p q qi pv qv dv iv Nv bP bQ EP EQ (k_privE w0 k n en d p q qi pv qv dv iv Nv bP bQ EP EQ (k_privG w0 k n en d p q qi pv qv dv iv Nv bP bQ EP EQ (k_privF w0 k n en d p q qi pv qv dv iv Nv bP bQ EP EQ)))))
  have HB := hide hB
  have k0 := hk.c0
  have f8 := hk.frozen 8
  have c8 := PKey.c8 hk
  have knil := eql_nil bP 0 EP.length EP.length
  clear hNo hNv lP lQ eP eQ KL hB blN blp blq hpN hqN yP yQ p3 q3
  go_enter Tryz.func85, Tryz.ntmps85
  have hk1 := PKey.set hk true
  have h01 : Mod [] w0 (w.setCell ⟨k, 8, none⟩ (.bool true)) := Mod.trans (U := []) h0 ((Mod.refl [k] w).setCell _ _ (by simp)) (by simp) (by simp; omega)
  go_wp2_with fail
  refine (k_check _ k n en Nv hk1.lt hk1.c0 hk1.c1 (hn.mod h01) HK.out.no HK.out.kl.e2 HK.out.kl.eo HK.out.kl.eb).mono ?_
  rintro e w2 ⟨f, rfl, m2⟩
  have h02 := h01.then m2
  have hk2 := Blk.mod hk1 m2 (by simp)
  clear hk1 h01 m2 k0 f8 c8
  have f8 := hk2.frozen 8
  have hkf := PKey.set hk2 false
  have h02f : Mod [] w0 (w2.setCell ⟨k, 8, none⟩ (.bool false)) := Mod.trans (U := []) h02 ((Mod.refl [k] w2).setCell _ _ (by simp)) (by simp) (by simp; omega)
  have c8 := PKey.c8 hk2
  go_upto_if 42 with fail
  go_cut [] from 42 to 45 (fun wx => Mod [] w0 wx ∧ ∃ b, PKey wx k n en d p q (sl bP 0 EP.length EP.length) (sl bQ 0 EQ.length EQ.length) qi b)
  case first =>
    go_wp2_with fail
    all_goals go_meet
    all_goals first | exact ⟨h02f, _, hkf⟩ | exact ⟨h02, _, hk2⟩
  case rest =>
    obtain ⟨h03, b, hk3⟩ := hcut
    clear hk2 hkf h02f h02 c8 f8
    obtain ⟨w3, rfl⟩ : ∃ w3 : World, w3 = wc := ⟨_, rfl⟩
    have k5 := PKey.c5 hk3
    have k0 := PKey.c0 hk3
    have k3 := PKey.c3 hk3
    have k4 := PKey.c4 hk3
    have f8 := hk3.frozen 8
    have c8 := PKey.c8 hk3
    obtain ⟨bp, hbp⟩ : ∃ bp, bp = blen pv := ⟨_, rfl⟩
    obtain ⟨bq, hbq⟩ : ∃ bq, bq = blen qv := ⟨_, rfl⟩
    have HBP := hide hbp
    have HBQ := hide hbq
    clear hbp hbq
    go_wp2_with fail
    refine (k_BitLen _ p _ (hp.mod h03)).mono ?_
    rintro e w' ⟨rfl, rfl⟩
    rw [← HBP.out]
    go_wp2_with fail
    refine (k_BitLen _ q _ (hq.mod h03)).mono ?_
    rintro e w' ⟨rfl, rfl⟩
    rw [← HBQ.out]
    have hkf := PKey.set hk3 false
    have h03f : Mod [] w0 (w3.setCell ⟨k, 8, none⟩ (.bool false)) := Mod.trans (U := []) h03 ((Mod.refl [k] w3).setCell _ _ (by simp)) (by simp) (by simp; omega)
    go_upto_if 71 with fail
    go_cut [] from 71 to 74 (fun wx => Mod [] w0 wx ∧ ∃ b, PKey wx k n en d p q (sl bP 0 EP.length EP.length) (sl bQ 0 EQ.length EQ.length) qi b)
    case first =>
      go_wp2_with fail
      all_goals go_meet
      all_goals first | exact ⟨h03f, _, hkf⟩ | exact ⟨h03, _, hk3⟩
    case rest =>
      clear hk3 hkf h03f h03 c8 f8 k5 k0 k3 k4 knil
      obtain ⟨hz0, b, hkz⟩ := hcut
      apply_assumption
      exact HB.out _ _ _ _ _ _ _ _ _ _ _ _ _ _ _ _ _ _ _ _ _ _ _ _ _ _ _ _ _ _ _ _ _ _ _ _ _ _ _ _ _ _ _ _ _ _ _ _ _ _ _ _ _ _ _ _ _ _ _ _ _ _ _ _ _ _ _ _ _ _ _ _ _ _ _ _ _ _ _ _ _ _ _ _ _ _ _ _ _ _ _ _ _ _ _ _ _ _ _ _ _ _ _ _ _ _ _ _ _ _ _ _ _ _ _ _ _ _ _ _ _ _ _ _ _ _ _ _ _ _ _ _ _ _ _ _ _ _ _ _ _ _ _ _ _ _ _ _ _ _ _ _ _ _ _ _ _ _ _ _ _ _ _ _ _ _ _ _ _ _ _ _ _ _ _ _ _ _ _ _ _ _ _ _ _ _ _ _ _ _ _ _ _ _ _ _ _ _ _ _ _ _ _ _ _ _ _ _ _ _ _ _ _ _ _ _ _ _ _ _ _ _ _ _ _ _ _ _ _ _ _ _ _ _ _ _ _ _ _ _ _ _ _ _ _ _ _ _ _ _ _ _ _ _ _ _ _ _ _ _ _ _ _ _ _ _ _ _ _ _ _ _ _ _ _ _ _ _ _ _ _ _ _ _ _ _ _ _ _ _ _ _ _ _ _ _ _ _ _ _ _ _ _ _ _ _ _ ⟨HK.out, hz0, gk, ⟨b, hkz⟩, hn.mod hz0, hp.mod hz0, hq.mod hz0, hd.mod hz0, hi.mod hz0, Blk.up rP hz0, Blk.up rQ hz0⟩
end Go.Proofs.YtkhopfobjijnlaaGreatDoor
namespace Go.Proofs.YtkhopfobjijnlaaGreatDoor
open Go.RowKit

/-- A private key in the world, with what belongs to it. -/
structure PrivAt (w : World) (k n en d p q pv qv dv iv Nv : Nat) (bP bQ qi : Nat) (EP EQ : List Nat) : Prop where
  hk : ∃ fl, PKey w k n en d p q (sl bP 0 EP.length EP.length) (sl bQ 0 EQ.length EQ.length) qi fl
  hn : MdAt w n Nv
  hp : MdAt w p pv
  hq : MdAt w q qv
  hi : NumAt w 0 qi (wlen pv) iv
  rP : Blk w bP 5 (EP.map u8)
  rQ : Blk w bQ 5 (EQ.map u8)
  yP : Bytes EP
  yQ : Bytes EQ
  eP : bval EP = dv % (pv - 1)
  eQ : bval EQ = dv % (qv - 1)
  lP : EP.length ≤ 100000
  lQ : EQ.length ≤ 100000
theorem PrivAt.up {w w' : World} {k n en d p q pv qv dv iv Nv bP bQ qi : Nat} {EP EQ : List Nat} (h : PrivAt w k n en d p q pv qv dv iv Nv bP bQ qi EP EQ) (m : Mod [] w w') : PrivAt w' k n en d p q pv qv dv iv Nv bP bQ qi EP EQ := by
  obtain ⟨⟨fl, a1⟩, a2, a3, a4, a5, a6, a7, a8, a9, a10, a11, a12, a13⟩ := h
  exact ⟨⟨fl, Blk.up a1 m⟩, a2.mod m, a3.mod m, a4.mod m, a5.mod m, Blk.up a6 m, Blk.up a7 m, a8, a9, a10, a11, a12, a13⟩

set_option maxRecDepth 100000 in
set_option maxHeartbeats 16000000 in
theorem k_newPriv (w : World) (n en d p q pv qv dv Nv g : Nat) (hn : MdAt w n Nv) (hp : MdAt w p pv) (hq : MdAt w q qv) (hd : NumAt w g d (wlen Nv) dv) (hNv : Nv = pv * qv) (bN : blen Nv ≤ 4000)
    (KL : KeyLaw pv qv en dv ((qv % pv) ^ (pv - 1 - 1) % pv)) :
    Calls Tryz.prog 57 #[ptr n, .int .i64 en, ptr d, ptr p, ptr q] w fun e w' => ∃ k bP bQ qi EP EQ, e = .returned (.tuple #[ptr k, .nilIface]) ∧ Mod [] w w' ∧ PrivAt w' k n en d p q pv qv dv ((qv % pv) ^ (pv - 1 - 1) % pv) Nv bP bQ qi EP EQ := by
  have p3 := KL.p3
  have q3 := KL.q3
  have KLh := hide KL
  have HNV := hide hNv
  have bp : blen pv ≤ 4000 := Nat.le_trans (blen_mono (by rw [hNv]; exact Nat.le_mul_of_pos_right _ (by omega))) bN
  have bq : blen qv ≤ 4000 := Nat.le_trans (blen_mono (by rw [hNv]; exact Nat.le_mul_of_pos_left _ (by omega))) bN
  have bp1 : blen (pv - 1) ≤ 4000 := Nat.le_trans (blen_mono (by omega)) bp
  have bq1 : blen (qv - 1) ≤ 4000 := Nat.le_trans (blen_mono (by omega)) bq
  clear KL hNv
  have hd := hd.mono (Nat.zero_le g)
  have hz0 : Mod [] w w := Mod.refl _ _
  have bz : Mod [] w w := Mod.refl _ _
  go_enter Tryz.func57, Tryz.ntmps57
  go_wp2_with fail
  have c1w : Mod [] w w := Mod.refl _ _
  refine (k_Nat _ p _ (hp.mod (bz.then c1w))).mono ?_
  rintro e v1 ⟨t1, rfl, mm, nt⟩
  replace nt := nt.mono c1w.size
  have bv1 := c1w.then mm
  clear mm c1w
  go_wp2_with fail
  refine (k_SubOne _ _ t1 _ p _ bv1 (hp.mod bz) nt (by omega)).mono ?_
  rintro e v2 ⟨rfl, f, -, n'⟩
  have nn_ := n'
  have bv2 := f.back bv1 nt
  clear nt n' f bv1
  have nt := nn_
  clear nn_
  go_wp2_with fail
  refine (k_Bytes _ _ t1 _ _ p _ nt (hp.mod (bz.then bv2)) (lt_size (Nat.sub_lt (show 0 < pv by omega) Nat.one_pos)) (by omega)).mono ?_
  rintro e v3 ⟨bka, Ba, rfl, mm, rwa, gba, lB, hBa, eB⟩
  clear nt
  have bv3 := bv2.then mm
  clear mm bv2
  have LBa := hide lB
  have EBa := hide eB
  clear lB eB gba
  go_wp2_with fail
  refine (k_NewModulus _ _ Ba (GotB.row rwa hBa) (by rw [LBa.out]; exact (by omega)) (by rw [EBa.out]; exact (by omega))).mono ?_
  rintro e v4 ⟨m1, rfl, mm, hm1, hsep⟩
  rw [EBa.out] at hm1
  have bv4 := bv3.then mm
  clear mm bv3
  clear hsep
  clear rwa LBa EBa hBa
  go_wp2_with fail
  have c2v4 : Mod [] v4 v4 := Mod.refl _ _
  refine (k_New _).mono ?_
  rintro e v5 ⟨x2, rfl, mm, nx⟩
  have sep := (Sep.new (hd.mod ((bz.then bv4).then c2v4)) mm nx).symm
  replace nx := nx.mono c2v4.size
  have bv5 := c2v4.then mm
  clear mm c2v4
  go_wp2_with fail
  refine (k_Mod _ _ x2 _ _ _ d _ _ m1 _ bv5 hm1 nx (hd.mod ((bz.then bv4).then bv5)) sep).mono ?_
  rintro e v6 ⟨rfl, f, -, n'⟩
  have nn_ := n'
  have bv6 := f.back bv5 nx
  clear nx n' f bv5
  have nx := nn_
  clear nn_
  clear sep
  go_wp2_with fail
  refine (k_Bytes _ _ x2 _ _ m1 _ nx (hm1.mod bv6) (lt_size (Nat.mod_lt _ (by omega))) (by omega)).mono ?_
  rintro e v7 ⟨bkP, BP, rfl, mm, rwP, gbP, lB, hBP, eB⟩
  clear nx
  have bv7 := bv6.then mm
  clear mm bv6
  have LBP := hide lB
  have EBP := hide eB
  clear lB eB gbP
  go_wp2_with fail
  replace hm1 := (hm1.mod bv7)
  have d3v7 := bv4.then bv7
  clear bv4 bv7
  have d4v7 := bz.then d3v7
  clear bz d3v7
  clear hm1
  have c5v7 : Mod [] v7 v7 := Mod.refl _ _
  refine (k_Nat _ q _ (hq.mod (d4v7.then c5v7))).mono ?_
  rintro e v8 ⟨t1, rfl, mm, nt⟩
  replace nt := nt.mono c5v7.size
  have bv8 := c5v7.then mm
  clear mm c5v7
  go_wp2_with fail
  refine (k_SubOne _ _ t1 _ q _ bv8 (hq.mod d4v7) nt (by omega)).mono ?_
  rintro e v9 ⟨rfl, f, -, n'⟩
  have nn_ := n'
  have bv9 := f.back bv8 nt
  clear nt n' f bv8
  have nt := nn_
  clear nn_
  go_wp2_with fail
  refine (k_Bytes _ _ t1 _ _ q _ nt (hq.mod (d4v7.then bv9)) (lt_size (Nat.sub_lt (show 0 < qv by omega) Nat.one_pos)) (by omega)).mono ?_
  rintro e v10 ⟨bka, Ba, rfl, mm, rwa, gba, lB, hBa, eB⟩
  clear nt
  have bv10 := bv9.then mm
  clear mm bv9
  have LBa := hide lB
  have EBa := hide eB
  clear lB eB gba
  go_wp2_with fail
  refine (k_NewModulus _ _ Ba (GotB.row rwa hBa) (by rw [LBa.out]; exact (by omega)) (by rw [EBa.out]; exact (by omega))).mono ?_
  rintro e v11 ⟨m2, rfl, mm, hm2, hsep⟩
  rw [EBa.out] at hm2
  have bv11 := bv10.then mm
  clear mm bv10
  clear hsep
  clear rwa LBa EBa hBa
  go_wp2_with fail
  have c6v11 : Mod [] v11 v11 := Mod.refl _ _
  refine (k_New _).mono ?_
  rintro e v12 ⟨x3, rfl, mm, nx⟩
  have sep := (Sep.new (hd.mod ((d4v7.then bv11).then c6v11)) mm nx).symm
  replace nx := nx.mono c6v11.size
  have bv12 := c6v11.then mm
  clear mm c6v11
  go_wp2_with fail
  refine (k_Mod _ _ x3 _ _ _ d _ _ m2 _ bv12 hm2 nx (hd.mod ((d4v7.then bv11).then bv12)) sep).mono ?_
  rintro e v13 ⟨rfl, f, -, n'⟩
  have nn_ := n'
  have bv13 := f.back bv12 nx
  clear nx n' f bv12
  have nx := nn_
  clear nn_
  clear sep
  go_wp2_with fail
  refine (k_Bytes _ _ x3 _ _ m2 _ nx (hm2.mod bv13) (lt_size (Nat.mod_lt _ (by omega))) (by omega)).mono ?_
  rintro e v14 ⟨bkQ, BQ, rfl, mm, rwQ, gbQ, lB, hBQ, eB⟩
  clear nx
  have bv14 := bv13.then mm
  clear mm bv13
  have LBQ := hide lB
  have EBQ := hide eB
  clear lB eB gbQ
  go_wp2_with fail
  replace hm2 := (hm2.mod bv14)
  have d7v14 := bv11.then bv14
  clear bv11 bv14
  replace rwP := (Blk.up rwP d7v14)
  have d8v14 := d4v7.then d7v14
  clear d4v7 d7v14
  clear hm2
  refine (k_Nat _ p _ (hp.mod d8v14)).mono ?_
  rintro e v15 ⟨t1, rfl, mm, nt⟩
  replace nt := nt.mono d8v14.size
  replace rwP := (Blk.up rwP mm)
  replace rwQ := (Blk.up rwQ mm)
  have bv15 := d8v14.then mm
  clear mm d8v14
  go_wp2_with fail
  refine (k_IsOdd _ _ t1 _ _ nt).mono ?_
  rintro e w' ⟨rfl, rfl⟩
  rw [KLh.out.po]
  clear nt
  go_wp2_with fail
  have c9v15 : Mod [] v15 v15 := Mod.refl _ _
  refine (k_Nat _ p _ (hp.mod (bv15.then c9v15))).mono ?_
  rintro e v16 ⟨t1, rfl, mm, nt⟩
  replace nt := nt.mono c9v15.size
  have bv16 := c9v15.then mm
  clear mm c9v15
  go_wp2_with fail
  refine (k_SubOne _ _ t1 _ p _ bv16 (hp.mod bv15) nt (by omega)).mono ?_
  rintro e v17 ⟨rfl, f, -, n'⟩
  have nn_ := n'
  have bv17 := f.back bv16 nt
  clear nt n' f bv16
  have nt := nn_
  clear nn_
  go_wp2_with fail
  refine (k_SubOne _ _ t1 _ p _ bv17 (hp.mod bv15) nt (by omega)).mono ?_
  rintro e v18 ⟨rfl, f, -, n'⟩
  have nn_ := n'
  have bv18 := f.back bv17 nt
  clear nt n' f bv17
  have nt := nn_
  clear nn_
  go_wp2_with fail
  refine (k_Bytes _ _ t1 _ _ p _ nt (hp.mod (bv15.then bv18)) (lt_size (by omega)) (by omega)).mono ?_
  rintro e v19 ⟨bkE, BE, rfl, mm, rwE, gbE, lB, hBE, eB⟩
  clear nt
  have bv19 := bv18.then mm
  clear mm bv18
  have LBE := hide lB
  have EBE := hide eB
  clear lB eB gbE
  go_wp2_with fail
  replace rwP := (Blk.up rwP bv19)
  replace rwQ := (Blk.up rwQ bv19)
  have d10v19 := bv15.then bv19
  clear bv15 bv19
  have c11v19 : Mod [] v19 v19 := Mod.refl _ _
  refine (k_New _).mono ?_
  rintro e v20 ⟨x4, rfl, mm, n4⟩
  replace n4 := n4.mono c11v19.size
  have bv20 := c11v19.then mm
  clear mm c11v19
  go_wp2_with fail
  refine (k_Nat _ q _ (hq.mod (d10v19.then bv20))).mono ?_
  rintro e v21 ⟨t1, rfl, mm, nt⟩
  have sep := Sep.new n4 mm nt
  replace nt := nt.mono bv20.size
  replace n4 := (n4.mod mm)
  have bv21 := bv20.then mm
  clear mm bv20
  go_wp2_with fail
  refine (k_Mod _ _ x4 _ _ _ t1 _ _ p _ bv21 (hp.mod d10v19) n4 nt sep).mono ?_
  rintro e v22 ⟨rfl, f, -, n'⟩
  have nn_ := n'
  have bv22 := f.back bv21 n4
  clear n4 n' f bv21
  have n4 := nn_
  clear nn_
  clear nt
  go_wp2_with fail
  refine (k_Exp _ _ x4 _ _ _ x4 _ p _ _ _ bv22 (hp.mod d10v19) KLh.out.po n4 n4 (Nat.mod_lt _ (by omega)) (GotB.row (Blk.up rwE bv22) hBE) (ApartN.row (Blk.up rwE bv22) _ _) (by rw [LBE.out]; omega)).mono ?_
  rintro e v23 ⟨rfl, f, -, n'⟩
  have nn_ := n'
  have bv23 := f.back bv22 n4
  clear n4 n' f bv22
  have n4 := nn_
  clear nn_
  rw [EBE.out] at n4
  replace rwP := (Blk.up rwP bv23)
  replace rwQ := (Blk.up rwQ bv23)
  replace rwE := (Blk.up rwE bv23)
  have d12v23 := d10v19.then bv23
  clear d10v19 bv23
  have LPp : BP.length ≤ 100000 := by rw [LBP.out]; omega
  have LQp : BQ.length ≤ 100000 := by rw [LBQ.out]; omega
  replace hz0 := (hz0.then d12v23)
  replace hn := (hn.mod d12v23)
  replace hp := (hp.mod d12v23)
  replace hq := (hq.mod d12v23)
  replace hd := (hd.mod d12v23)
  clear d12v23
  have cv23 : Mod [] v23 v23 := Mod.refl _ _
  have hkz : PKey (v23.alloc (.cells #[ptr n, .int .i64 en, ptr d, ptr p, ptr q, sl bkP 0 BP.length BP.length, sl bkQ 0 BQ.length BQ.length, ptr x4, .bool false] 80)) v23.heap.size n en d p q (sl bkP 0 BP.length BP.length) (sl bkQ 0 BQ.length BQ.length) x4 false := Blk.new v23 _ _
  have mk : Mod [] v23 (v23.alloc (.cells #[ptr n, .int .i64 en, ptr d, ptr p, ptr q, sl bkP 0 BP.length BP.length, sl bkQ 0 BQ.length BQ.length, ptr x4, .bool false] 80)) := (Mod.refl [] v23).alloc _
  go_wp2_with fail
  refine (k_checkPriv v23 _ v23.heap.size n en d p q x4 pv qv dv _ Nv bkP bkQ BP BQ false mk (Nat.le_refl _) hkz HNV.out hn hp hq hd (n4.mono (Nat.zero_le _)) rwP rwQ hBP hBQ LBP.out LBQ.out EBP.out EBQ.out KLh.out).mono ?_
  rintro e wf ⟨rfl, mf, fl, hkf⟩
  go_wp2_with fail
  go_ret2
  exact ⟨_, bkP, bkQ, x4, BP, BQ, rfl, hz0.then mf, ⟨⟨fl, hkf⟩, hn.mod mf, hp.mod mf, hq.mod mf, (n4.mono (Nat.zero_le _)).mod mf, Blk.up rwP mf, Blk.up rwQ mf, hBP, hBQ, EBP.out, EBQ.out, LPp, LQp⟩⟩
end Go.Proofs.YtkhopfobjijnlaaGreatDoor
