/- Lemmas of mine for the walk and its plain laws: NewP Decr BytesU Unseal -/
import Derived.Test.YtfgmnbmnpihjdaaGreatDoorM39
import Derived.Deep.RegionHeld3
import Derived.Test.YtfgmnbmnpihjdaaGreatDoorM20
import Derived.Test.YtfgmnbmnpihjdaaGreatDoorM37
set_option linter.all false
set_option exponentiation.threshold 7000000
set_option maxHeartbeats 16000000
namespace Go.Proofs.YtfgmnbmnpihjdaaGreatDoor
open Go.RowKit
structure PrivAt(w:World)(k n en d p q pv qv dv iv Nv:Nat)(bP bQ qi:Nat)(EP EQ:List Nat):Prop where
 hk:∃fl,PKey w k n en d p q (sl bP 0 EP.length EP.length) (sl bQ 0 EQ.length EQ.length) qi fl
 hn:MdAt w n Nv
 hp:MdAt w p pv
 hq:MdAt w q qv
 hi:NumAt w 0 qi (wlen pv) iv
 rP:Blk w bP 5 (EP.map u8)
 rQ:Blk w bQ 5 (EQ.map u8)
 yP:Bytes EP
 yQ:Bytes EQ
 eP:bval EP=dv%(pv-1)
 eQ:bval EQ=dv%(qv-1)
 lP:EP.length≤100000
 lQ:EQ.length≤100000
theorem PrivAt.up{w w':World}{k n en d p q pv qv dv iv Nv bP bQ qi:Nat}{EP EQ:List Nat}(h:PrivAt w k n en d p q pv qv dv iv Nv bP bQ qi EP EQ)(m:Mod [] w w'):PrivAt w' k n en d p q pv qv dv iv Nv bP bQ qi EP EQ:=by
 obtain⟨⟨fl,a1⟩,a2,a3,a4,a5,a6,a7,a8,a9,a10,a11,a12,a13⟩:=h
 exact⟨⟨fl,Blk.up a1 m⟩,a2.mod m,a3.mod m,a4.mod m,a5.mod m,Blk.up a6 m,Blk.up a7 m,a8,a9,a10,a11,a12,a13⟩
set_option maxRecDepth 100000 in
theorem k_newPriv(w:World)(n en d p q pv qv dv Nv g:Nat)(hn:MdAt w n Nv)(hp:MdAt w p pv)(hq:MdAt w q qv)(hd:NumAt w g d (wlen Nv) dv)(hNv:Nv=pv*qv)(bN:blen Nv≤4000)
 (KL:KeyLaw pv qv en dv ((qv%pv)^(pv-1-1)%pv)) :
 Calls Tryz.prog 88 #[ptr n,.int .i64 en,ptr d,ptr p,ptr q] w fun e w'=>∃k bP bQ qi EP EQ,e=.returned (.tuple #[ptr k,.nilIface])∧Mod [] w w'∧PrivAt w' k n en d p q pv qv dv ((qv%pv)^(pv-1-1)%pv) Nv bP bQ qi EP EQ:=by
 have p3:=KL.p3
 have q3:=KL.q3
 have KLh:=hide KL
 have HNV:=hide hNv
 have bp:blen pv≤4000:=Nat.le_trans (blen_mono (by rw[hNv];exact Nat.le_mul_of_pos_right _ (by omega))) bN
 have bq:blen qv≤4000:=Nat.le_trans (blen_mono (by rw[hNv];exact Nat.le_mul_of_pos_left _ (by omega))) bN
 have bp1:blen (pv-1)≤4000:=Nat.le_trans (blen_mono (by omega)) bp
 have bq1:blen (qv-1)≤4000:=Nat.le_trans (blen_mono (by omega)) bq
 clear KL hNv
 have hd:=hd.mono (Nat.zero_le g)
 have hz0:Mod [] w w:=Mod.refl _ _
 have bz:Mod [] w w:=Mod.refl _ _
 go_enter Tryz.func88,Tryz.ntmps88
 go_wp2_with fail
 have c1w:Mod [] w w:=Mod.refl _ _
 refine(k_Nat _ p _ (hp.mod (bz.then c1w))).mono ?_
 rintro e v1 ⟨t1,rfl,mm,nt⟩
 replace nt:=nt.mono c1w.size
 have bv1:=c1w.then mm
 clear mm c1w
 go_wp2_with fail
 refine(k_SubOne _ _ t1 _ p _ bv1 (hp.mod bz) nt (by omega)).mono ?_
 rintro e v2 ⟨rfl,f,-,n'⟩
 have nn_:=n'
 have bv2:=f.back bv1 nt
 clear nt n' f bv1
 have nt:=nn_
 clear nn_
 go_wp2_with fail
 refine(k_Bytes _ _ t1 _ _ p _ nt (hp.mod (bz.then bv2)) (lt_size (Nat.sub_lt (show 0<pv by omega) Nat.one_pos)) (by omega)).mono ?_
 rintro e v3 ⟨bka,Ba,rfl,mm,rwa,gba,lB,hBa,eB⟩
 clear nt
 have bv3:=bv2.then mm
 clear mm bv2
 have LBa:=hide lB
 have EBa:=hide eB
 clear lB eB gba
 go_wp2_with fail
 refine(k_NewModulus _ _ Ba (GotB.row rwa hBa) (by rw[LBa.out];exact(by omega)) (by rw[EBa.out];exact(by omega))).mono ?_
 rintro e v4 ⟨m1,rfl,mm,hm1,hsep⟩
 rw[EBa.out]at hm1
 have bv4:=bv3.then mm
 clear mm bv3
 clear hsep
 clear rwa LBa EBa hBa
 go_wp2_with fail
 have c2v4:Mod [] v4 v4:=Mod.refl _ _
 refine(k_New _).mono ?_
 rintro e v5 ⟨x2,rfl,mm,nx⟩
 have sep:=(Sep.new (hd.mod ((bz.then bv4).then c2v4)) mm nx).symm
 replace nx:=nx.mono c2v4.size
 have bv5:=c2v4.then mm
 clear mm c2v4
 go_wp2_with fail
 refine(k_Mod _ _ x2 _ _ _ d _ _ m1 _ bv5 hm1 nx (hd.mod ((bz.then bv4).then bv5)) sep).mono ?_
 rintro e v6 ⟨rfl,f,-,n'⟩
 have nn_:=n'
 have bv6:=f.back bv5 nx
 clear nx n' f bv5
 have nx:=nn_
 clear nn_
 clear sep
 go_wp2_with fail
 refine(k_Bytes _ _ x2 _ _ m1 _ nx (hm1.mod bv6) (lt_size (Nat.mod_lt _ (by omega))) (by omega)).mono ?_
 rintro e v7 ⟨bkP,BP,rfl,mm,rwP,gbP,lB,hBP,eB⟩
 clear nx
 have bv7:=bv6.then mm
 clear mm bv6
 have LBP:=hide lB
 have EBP:=hide eB
 clear lB eB gbP
 go_wp2_with fail
 replace hm1:=(hm1.mod bv7)
 have d3v7:=bv4.then bv7
 clear bv4 bv7
 have d4v7:=bz.then d3v7
 clear bz d3v7
 clear hm1
 have c5v7:Mod [] v7 v7:=Mod.refl _ _
 refine(k_Nat _ q _ (hq.mod (d4v7.then c5v7))).mono ?_
 rintro e v8 ⟨t1,rfl,mm,nt⟩
 replace nt:=nt.mono c5v7.size
 have bv8:=c5v7.then mm
 clear mm c5v7
 go_wp2_with fail
 refine(k_SubOne _ _ t1 _ q _ bv8 (hq.mod d4v7) nt (by omega)).mono ?_
 rintro e v9 ⟨rfl,f,-,n'⟩
 have nn_:=n'
 have bv9:=f.back bv8 nt
 clear nt n' f bv8
 have nt:=nn_
 clear nn_
 go_wp2_with fail
 refine(k_Bytes _ _ t1 _ _ q _ nt (hq.mod (d4v7.then bv9)) (lt_size (Nat.sub_lt (show 0<qv by omega) Nat.one_pos)) (by omega)).mono ?_
 rintro e v10 ⟨bka,Ba,rfl,mm,rwa,gba,lB,hBa,eB⟩
 clear nt
 have bv10:=bv9.then mm
 clear mm bv9
 have LBa:=hide lB
 have EBa:=hide eB
 clear lB eB gba
 go_wp2_with fail
 refine(k_NewModulus _ _ Ba (GotB.row rwa hBa) (by rw[LBa.out];exact(by omega)) (by rw[EBa.out];exact(by omega))).mono ?_
 rintro e v11 ⟨m2,rfl,mm,hm2,hsep⟩
 rw[EBa.out]at hm2
 have bv11:=bv10.then mm
 clear mm bv10
 clear hsep
 clear rwa LBa EBa hBa
 go_wp2_with fail
 have c6v11:Mod [] v11 v11:=Mod.refl _ _
 refine(k_New _).mono ?_
 rintro e v12 ⟨x3,rfl,mm,nx⟩
 have sep:=(Sep.new (hd.mod ((d4v7.then bv11).then c6v11)) mm nx).symm
 replace nx:=nx.mono c6v11.size
 have bv12:=c6v11.then mm
 clear mm c6v11
 go_wp2_with fail
 refine(k_Mod _ _ x3 _ _ _ d _ _ m2 _ bv12 hm2 nx (hd.mod ((d4v7.then bv11).then bv12)) sep).mono ?_
 rintro e v13 ⟨rfl,f,-,n'⟩
 have nn_:=n'
 have bv13:=f.back bv12 nx
 clear nx n' f bv12
 have nx:=nn_
 clear nn_
 clear sep
 go_wp2_with fail
 refine(k_Bytes _ _ x3 _ _ m2 _ nx (hm2.mod bv13) (lt_size (Nat.mod_lt _ (by omega))) (by omega)).mono ?_
 rintro e v14 ⟨bkQ,BQ,rfl,mm,rwQ,gbQ,lB,hBQ,eB⟩
 clear nx
 have bv14:=bv13.then mm
 clear mm bv13
 have LBQ:=hide lB
 have EBQ:=hide eB
 clear lB eB gbQ
 go_wp2_with fail
 replace hm2:=(hm2.mod bv14)
 have d7v14:=bv11.then bv14
 clear bv11 bv14
 replace rwP:=(Blk.up rwP d7v14)
 have d8v14:=d4v7.then d7v14
 clear d4v7 d7v14
 clear hm2
 refine(k_Nat _ p _ (hp.mod d8v14)).mono ?_
 rintro e v15 ⟨t1,rfl,mm,nt⟩
 replace nt:=nt.mono d8v14.size
 replace rwP:=(Blk.up rwP mm)
 replace rwQ:=(Blk.up rwQ mm)
 have bv15:=d8v14.then mm
 clear mm d8v14
 go_wp2_with fail
 refine(k_IsOdd _ _ t1 _ _ nt).mono ?_
 rintro e w' ⟨rfl,rfl⟩
 rw[KLh.out.po]
 clear nt
 go_wp2_with fail
 have c9v15:Mod [] v15 v15:=Mod.refl _ _
 refine(k_Nat _ p _ (hp.mod (bv15.then c9v15))).mono ?_
 rintro e v16 ⟨t1,rfl,mm,nt⟩
 replace nt:=nt.mono c9v15.size
 have bv16:=c9v15.then mm
 clear mm c9v15
 go_wp2_with fail
 refine(k_SubOne _ _ t1 _ p _ bv16 (hp.mod bv15) nt (by omega)).mono ?_
 rintro e v17 ⟨rfl,f,-,n'⟩
 have nn_:=n'
 have bv17:=f.back bv16 nt
 clear nt n' f bv16
 have nt:=nn_
 clear nn_
 go_wp2_with fail
 refine(k_SubOne _ _ t1 _ p _ bv17 (hp.mod bv15) nt (by omega)).mono ?_
 rintro e v18 ⟨rfl,f,-,n'⟩
 have nn_:=n'
 have bv18:=f.back bv17 nt
 clear nt n' f bv17
 have nt:=nn_
 clear nn_
 go_wp2_with fail
 refine(k_Bytes _ _ t1 _ _ p _ nt (hp.mod (bv15.then bv18)) (lt_size (by omega)) (by omega)).mono ?_
 rintro e v19 ⟨bkE,BE,rfl,mm,rwE,gbE,lB,hBE,eB⟩
 clear nt
 have bv19:=bv18.then mm
 clear mm bv18
 have LBE:=hide lB
 have EBE:=hide eB
 clear lB eB gbE
 go_wp2_with fail
 replace rwP:=(Blk.up rwP bv19)
 replace rwQ:=(Blk.up rwQ bv19)
 have d10v19:=bv15.then bv19
 clear bv15 bv19
 have c11v19:Mod [] v19 v19:=Mod.refl _ _
 refine(k_New _).mono ?_
 rintro e v20 ⟨x4,rfl,mm,n4⟩
 replace n4:=n4.mono c11v19.size
 have bv20:=c11v19.then mm
 clear mm c11v19
 go_wp2_with fail
 refine(k_Nat _ q _ (hq.mod (d10v19.then bv20))).mono ?_
 rintro e v21 ⟨t1,rfl,mm,nt⟩
 have sep:=Sep.new n4 mm nt
 replace nt:=nt.mono bv20.size
 replace n4:=(n4.mod mm)
 have bv21:=bv20.then mm
 clear mm bv20
 go_wp2_with fail
 refine(k_Mod _ _ x4 _ _ _ t1 _ _ p _ bv21 (hp.mod d10v19) n4 nt sep).mono ?_
 rintro e v22 ⟨rfl,f,-,n'⟩
 have nn_:=n'
 have bv22:=f.back bv21 n4
 clear n4 n' f bv21
 have n4:=nn_
 clear nn_
 clear nt
 go_wp2_with fail
 refine(k_Exp _ _ x4 _ _ _ x4 _ p _ _ _ bv22 (hp.mod d10v19) KLh.out.po n4 n4 (Nat.mod_lt _ (by omega)) (GotB.row (Blk.up rwE bv22) hBE) (ApartN.row (Blk.up rwE bv22) _ _) (by rw[LBE.out];omega)).mono ?_
 rintro e v23 ⟨rfl,f,-,n'⟩
 have nn_:=n'
 have bv23:=f.back bv22 n4
 clear n4 n' f bv22
 have n4:=nn_
 clear nn_
 rw[EBE.out]at n4
 replace rwP:=(Blk.up rwP bv23)
 replace rwQ:=(Blk.up rwQ bv23)
 replace rwE:=(Blk.up rwE bv23)
 have d12v23:=d10v19.then bv23
 clear d10v19 bv23
 have LPp:BP.length≤100000:=by rw[LBP.out];omega
 have LQp:BQ.length≤100000:=by rw[LBQ.out];omega
 replace hz0:=(hz0.then d12v23)
 replace hn:=(hn.mod d12v23)
 replace hp:=(hp.mod d12v23)
 replace hq:=(hq.mod d12v23)
 replace hd:=(hd.mod d12v23)
 clear d12v23
 have cv23:Mod [] v23 v23:=Mod.refl _ _
 have hkz:PKey (v23.alloc (.cells #[ptr n,.int .i64 en,ptr d,ptr p,ptr q,sl bkP 0 BP.length BP.length,sl bkQ 0 BQ.length BQ.length,ptr x4,.bool false] 121)) v23.heap.size n en d p q (sl bkP 0 BP.length BP.length) (sl bkQ 0 BQ.length BQ.length) x4 false:=Blk.new v23 _ _
 have mk:Mod [] v23 (v23.alloc (.cells #[ptr n,.int .i64 en,ptr d,ptr p,ptr q,sl bkP 0 BP.length BP.length,sl bkQ 0 BQ.length BQ.length,ptr x4,.bool false] 121)):=(Mod.refl [] v23).alloc _
 go_wp2_with fail
 refine(k_checkPriv v23 _ v23.heap.size n en d p q x4 pv qv dv _ Nv bkP bkQ BP BQ false mk (Nat.le_refl _) hkz HNV.out hn hp hq hd (n4.mono (Nat.zero_le _)) rwP rwQ hBP hBQ LBP.out LBQ.out EBP.out EBQ.out KLh.out).mono ?_
 rintro e wf ⟨rfl,mf,fl,hkf⟩
 go_wp2_with fail
 go_ret2
 exact⟨_,bkP,bkQ,x4,BP,BQ,rfl,hz0.then mf,⟨⟨fl,hkf⟩,hn.mod mf,hp.mod mf,hq.mod mf,(n4.mono (Nat.zero_le _)).mod mf,Blk.up rwP mf,Blk.up rwQ mf,hBP,hBQ,EBP.out,EBQ.out,LPp,LQp⟩⟩
def crtM(c pv qv dv iv Nv:Nat):Nat:=(subV ((c%pv)^(dv%(pv-1))%pv) ((c%qv)^(dv%(qv-1))%qv%pv) pv*iv%pv*(qv%Nv)%Nv+(c%qv)^(dv%(qv-1))%qv)%Nv
theorem subV_lt{a b m:Nat}(ha:a<m)(hb:b<m):subV a b m<m:=by unfold subV;split<;>omega
set_option maxRecDepth 100000 in
theorem k_decryptN(w:World)(k n en d p q pv qv dv iv Nv bP bQ qi:Nat)(EP EQ:List Nat)(A:PrivAt w k n en d p q pv qv dv iv Nv bP bQ qi EP EQ)(vC:Value)(BC:List Nat)(gC:GotB w vC BC)(lC:BC.length=(blen Nv+7)/8)(hc:bval BC<Nv)
 (hNv:Nv=pv*qv) (po:pv%2=1) (qo:qv%2=1) (p3:3<pv) (q3:3<qv) (bN:blen Nv≤4000) :
 Calls Tryz.prog 61 #[ptr k,vC,.bool false] w fun e w'=>∃b B,e=.returned (.tuple #[sl b 0 B.length B.length,.nilIface])∧Mod [] w w'∧Blk w' b 5 (B.map u8)∧B.length=(blen Nv+7)/8∧Bytes B∧bval B=crtM (bval BC) pv qv dv iv Nv∧w.heap.size≤b:=by
 have hpN:pv≤Nv:=by rw[hNv];exact Nat.le_mul_of_pos_right _ (by omega)
 have hqN:qv≤Nv:=by rw[hNv];exact Nat.le_mul_of_pos_left _ (by omega)
 have hNo:Nv%2=1:=by rw[hNv,Nat.mul_mod,po,qo]
 have wpN:wlen pv≤wlen Nv:=by have:=blen_mono hpN;unfold wlen;omega
 have wqN:wlen qv≤wlen Nv:=by have:=blen_mono hqN;unfold wlen;omega
 have h0C:0<BC.length:=by rw[lC];exact size_pos (by omega)
 have lC8:BC.length≤8*wlen Nv:=by rw[lC];exact fit_le (Nat.le_refl _)
 obtain⟨⟨fl,hk⟩,hn,hp,hq,hi,rP,rQ,yP,yQ,eP,eQ,lP,lQ⟩:=A
 have HC:=hide hc
 have PO:=hide po
 have QO:=hide qo
 have NO:=hide hNo
 have EP_:=hide eP
 have EQ_:=hide eQ
 obtain⟨cv,hcv⟩:∃cv,cv=bval BC:=⟨_,rfl⟩
 rw[←hcv]at hc HC ⊢
 have HCV:=hide hcv
 clear hNv po qo hNo lC eP eQ hcv
 have hz0:Mod [] w w:=Mod.refl _ _
 have bz:Mod [] w w:=Mod.refl _ _
 have k0:=PKey.c0 hk
 have k1:=PKey.c1 hk
 go_enter Tryz.func61,Tryz.ntmps61
 go_wp2_with fail
 go_quiet (fail)
 clear k0 k1
 obtain⟨w1,hw1⟩:∃w1,w1=w.drewN nq:=⟨_,rfl⟩
 have m01:Mod [] w w1:=by rw[hw1];exact(Mod.refl [] w).drewN _
 rw[←hw1]
 clear hw1
 replace bz:=bz.then m01
 go_wp2_with fail
 refine(k_New _).mono ?_
 rintro e v1 ⟨x1,rfl,mm,n1⟩
 replace n1:=n1.mono bz.size
 have bv1:=bz.then mm
 clear mm bz
 go_wp2_with fail
 refine(k_SetBytes _ _ x1 _ _ n _ vC BC n1 (hn.mod bv1) (gC.mod bv1) (ApartN.old gC n1) (MSep.base bv1 hn n1) lC8 h0C (by rw[←HCV.out];exact hc)).mono ?_
 rintro e v2 ⟨rfl,f,n'⟩
 rw[←HCV.out]at n'
 have nn_:=n' bv1.size
 have bv2:=f.back bv1 n1
 clear n1 n' f bv1
 have n1:=nn_
 clear nn_
 replace hz0:=(hz0.then bv2)
 replace hk:=(Blk.up hk bv2)
 replace hn:=(hn.mod bv2)
 replace hp:=(hp.mod bv2)
 replace hq:=(hq.mod bv2)
 replace hi:=(hi.mod bv2)
 replace rP:=(Blk.up rP bv2)
 replace rQ:=(Blk.up rQ bv2)
 replace gC:=(gC.mod bv2)
 clear bv2
 have cv2:Mod [] v2 v2:=Mod.refl _ _
 have k5:=PKey.c5 (Blk.up hk cv2)
 have knil:=eql_nil bP 0 EP.length EP.length v2
 have k3:=PKey.c3 (Blk.up hk cv2)
 have k4:=PKey.c4 (Blk.up hk cv2)
 go_wp2_with fail
 go_quiet (fail)
 clear k5 knil k3 k4
 obtain⟨v3,hw1⟩:∃w1,w1=v2.drewN nq:=⟨_,rfl⟩
 have mm:Mod [] v2 v3:=by rw[hw1];exact(Mod.refl [] v2).drewN _
 rw[←hw1]
 clear hw1
 have bv3:=cv2.then mm
 clear mm cv2
 replace hz0:=(hz0.then bv3)
 replace hk:=(Blk.up hk bv3)
 replace hn:=(hn.mod bv3)
 replace hp:=(hp.mod bv3)
 replace hq:=(hq.mod bv3)
 replace hi:=(hi.mod bv3)
 replace rP:=(Blk.up rP bv3)
 replace rQ:=(Blk.up rQ bv3)
 replace gC:=(gC.mod bv3)
 replace n1:=(n1.mod bv3)
 clear bv3
 have cv3:Mod [] v3 v3:=Mod.refl _ _
 go_wp2_with fail
 refine(k_New _).mono ?_
 rintro e v4 ⟨x2,rfl,mm,n2⟩
 replace n2:=n2.mono cv3.size
 have bv4:=cv3.then mm
 clear mm cv3
 go_wp2_with fail
 have kc:=PKey.c5 hk
 have bS:Mod [] v3 v4:=bv4
 have bS9:=bS
 go_region_held3 (fun w'=>w'.cell? ⟨k,5,none⟩=some (sl bP 0 EP.length EP.length)∧Mod [] v3 w')
  (first|exact⟨cell_up kc bv7,bv7⟩|exact⟨cell_up kc bv6,bv6⟩|exact⟨cell_up kc bv5,bv5⟩|exact⟨cell_up kc bS.drew,bS.drew⟩)
  (first|(go_at_call 84;refine(k_New _).mono ?_;rintro e v5 ⟨x3,rfl,mm,n3⟩;replace mm:=mm.ofDrew;have s_n2_n3:=Sep.new n2 mm n3;replace n3:=n3.mono bS9.size;replace n2:=(n2.mod mm);have bv5:=bS9.then mm;clear mm bS9)|(go_at_call 90;have sx:=(Sep.new n1 bv5 n2).symm;refine(k_Mod _ _ x2 _ _ _ x1 _ _ p _ bv5 hp n2 (n1.mod bv5) sx).mono ?_;rintro e v6 ⟨rfl,f,-,n'⟩;have nn_:=n';have bv6:=f.back bv5 n2;have z_n3:=f.num s_n2_n3 n3;have t_n3:=f.sep s_n2_n3 n3;clear s_n2_n3 n3;have s_n2_n3:=t_n3;have n3:=z_n3;clear t_n3 z_n3;clear n2 n' f bv5;have n2:=nn_;clear nn_;clear sx)|(go_at_call 89;refine(k_Exp _ _ x3 _ _ _ x2 _ p _ _ _ bv6 hp PO.out n3 n2 (Nat.mod_lt _ (by omega)) (GotB.row (Blk.up rP bv6) yP) (ApartN.row (Blk.up rP bv6) _ _) lP).mono ?_;rintro e v7 ⟨rfl,f,-,n'⟩;have nn_:=n';have bv7:=f.back bv6 n3;have z_n2:=f.num s_n2_n3.symm n2;have t_n2:=f.sep s_n2_n3.symm n2;clear s_n2_n3 n2;have s_n2_n3:=t_n2.symm;have n2:=z_n2;clear t_n2 z_n2;clear n3 n' f bv6;have n3:=nn_;clear nn_))
 clear kc bS
 rw[EP_.out]at n3
 go_wp2_with fail
 have kc:=PKey.c6 hk
 have bS:Mod [] v3 v7:=bv7
 have bS9:=bS
 go_region_held3 (fun w'=>w'.cell? ⟨k,6,none⟩=some (sl bQ 0 EQ.length EQ.length)∧Mod [] v3 w')
  (first|exact⟨cell_up kc bv10,bv10⟩|exact⟨cell_up kc bv9,bv9⟩|exact⟨cell_up kc bv8,bv8⟩|exact⟨cell_up kc bS.drew,bS.drew⟩)
  (first|(go_at_call 84;refine(k_New _).mono ?_;rintro e v8 ⟨x4,rfl,mm,n4⟩;replace mm:=mm.ofDrew;have s_n2_n4:=Sep.new n2 mm n4;have s_n3_n4:=Sep.new n3 mm n4;replace n4:=n4.mono bS9.size;replace s_n2_n3:=Sep.mod s_n2_n3 n2 n3 mm;replace n2:=(n2.mod mm);replace n3:=(n3.mod mm);have bv8:=bS9.then mm;clear mm bS9)|(go_at_call 90;have sx:=(Sep.new n1 bv8 n2).symm;refine(k_Mod _ _ x2 _ _ _ x1 _ _ q _ bv8 hq n2 (n1.mod bv8) sx).mono ?_;rintro e v9 ⟨rfl,f,-,n'⟩;have nn_:=n';have bv9:=f.back bv8 n2;have z_n3:=f.num s_n2_n3 n3;have t_n3:=f.sep s_n2_n3 n3;have z_n4:=f.num s_n2_n4 n4;have t_n4:=f.sep s_n2_n4 n4;have p_n3_n4:=f.sep2 s_n2_n3 s_n2_n4 s_n3_n4 n3 n4;clear s_n3_n4;have s_n3_n4:=p_n3_n4;clear p_n3_n4;clear s_n2_n3 n3;have s_n2_n3:=t_n3;have n3:=z_n3;clear t_n3 z_n3;clear s_n2_n4 n4;have s_n2_n4:=t_n4;have n4:=z_n4;clear t_n4 z_n4;clear n2 n' f bv8;have n2:=nn_;clear nn_;clear sx)|(go_at_call 89;refine(k_Exp _ _ x4 _ _ _ x2 _ q _ _ _ bv9 hq QO.out n4 n2 (Nat.mod_lt _ (by omega)) (GotB.row (Blk.up rQ bv9) yQ) (ApartN.row (Blk.up rQ bv9) _ _) lQ).mono ?_;rintro e v10 ⟨rfl,f,-,n'⟩;have nn_:=n';have bv10:=f.back bv9 n4;have z_n2:=f.num s_n2_n4.symm n2;have t_n2:=f.sep s_n2_n4.symm n2;have z_n3:=f.num s_n3_n4.symm n3;have t_n3:=f.sep s_n3_n4.symm n3;have p_n2_n3:=f.sep2 s_n2_n4.symm s_n3_n4.symm s_n2_n3 n2 n3;clear s_n2_n3;have s_n2_n3:=p_n2_n3;clear p_n2_n3;clear s_n2_n4 n2;have s_n2_n4:=t_n2.symm;have n2:=z_n2;clear t_n2 z_n2;clear s_n3_n4 n3;have s_n3_n4:=t_n3.symm;have n3:=z_n3;clear t_n3 z_n3;clear n4 n' f bv9;have n4:=nn_;clear nn_))
 clear kc bS
 rw[EQ_.out]at n4
 go_wp2_with fail
 refine(k_Mod _ _ x2 _ _ _ x4 _ _ p _ bv10 hp n2 n4 s_n2_n4).mono ?_
 rintro e v11 ⟨rfl,f,-,n'⟩
 have nn_:=n'
 have bv11:=f.back bv10 n2
 have z_n3:=f.num s_n2_n3 n3
 have t_n3:=f.sep s_n2_n3 n3
 have z_n4:=f.num s_n2_n4 n4
 have t_n4:=f.sep s_n2_n4 n4
 have p_n3_n4:=f.sep2 s_n2_n3 s_n2_n4 s_n3_n4 n3 n4
 clear s_n3_n4
 have s_n3_n4:=p_n3_n4
 clear p_n3_n4
 clear s_n2_n3 n3
 have s_n2_n3:=t_n3
 have n3:=z_n3
 clear t_n3 z_n3
 clear s_n2_n4 n4
 have s_n2_n4:=t_n4
 have n4:=z_n4
 clear t_n4 z_n4
 clear n2 n' f bv10
 have n2:=nn_
 clear nn_
 go_wp2_with fail
 refine(k_Sub _ _ x3 _ p _ _ x2 _ bv11 hp n3 n2 (by have:=Nat.mod_lt ((cv%qv)^(dv%(qv-1))%qv) (show 0<pv by omega);omega)).mono ?_
 rintro e v12 ⟨rfl,f,-,n'⟩
 have nn_:=n'
 have bv12:=f.back bv11 n3
 have z_n2:=f.num s_n2_n3.symm n2
 have t_n2:=f.sep s_n2_n3.symm n2
 have z_n4:=f.num s_n3_n4 n4
 have t_n4:=f.sep s_n3_n4 n4
 have p_n2_n4:=f.sep2 s_n2_n3.symm s_n3_n4 s_n2_n4 n2 n4
 clear s_n2_n4
 have s_n2_n4:=p_n2_n4
 clear p_n2_n4
 clear s_n2_n3 n2
 have s_n2_n3:=t_n2.symm
 have n2:=z_n2
 clear t_n2 z_n2
 clear s_n3_n4 n4
 have s_n3_n4:=t_n4
 have n4:=z_n4
 clear t_n4 z_n4
 clear n3 n' f bv11
 have n3:=nn_
 clear nn_
 have kc:=PKey.c7 (Blk.up hk bv12)
 go_wp2_with fail
 refine(k_Mul _ _ x3 _ p _ _ qi _ bv12 hp PO.out n3 (hi.mod bv12) (subV_lt (Nat.mod_lt _ (by omega)) (Nat.mod_lt _ (by omega)))).mono ?_
 rintro e v13 ⟨rfl,f,-,n'⟩
 have nn_:=n'
 have bv13:=f.back bv12 n3
 have z_n2:=f.num s_n2_n3.symm n2
 have t_n2:=f.sep s_n2_n3.symm n2
 have z_n4:=f.num s_n3_n4 n4
 have t_n4:=f.sep s_n3_n4 n4
 have p_n2_n4:=f.sep2 s_n2_n3.symm s_n3_n4 s_n2_n4 n2 n4
 clear s_n2_n4
 have s_n2_n4:=p_n2_n4
 clear p_n2_n4
 clear s_n2_n3 n2
 have s_n2_n3:=t_n2.symm
 have n2:=z_n2
 clear t_n2 z_n2
 clear s_n3_n4 n4
 have s_n3_n4:=t_n4
 have n4:=z_n4
 clear t_n4 z_n4
 clear n3 n' f bv12
 have n3:=nn_
 clear nn_
 clear kc
 go_wp2_with fail
 refine(k_Expand _ _ x3 _ _ n _ n3 (hn.mod bv13) wpN).mono ?_
 rintro e v14 ⟨rfl,f,n'⟩
 have nn_:=n' bv13.size
 have bv14:=f.back bv13 n3
 have z_n2:=f.num s_n2_n3.symm n2
 have t_n2:=f.sep s_n2_n3.symm n2
 have z_n4:=f.num s_n3_n4 n4
 have t_n4:=f.sep s_n3_n4 n4
 have p_n2_n4:=f.sep2 s_n2_n3.symm s_n3_n4 s_n2_n4 n2 n4
 clear s_n2_n4
 have s_n2_n4:=p_n2_n4
 clear p_n2_n4
 clear s_n2_n3 n2
 have s_n2_n3:=t_n2.symm
 have n2:=z_n2
 clear t_n2 z_n2
 clear s_n3_n4 n4
 have s_n3_n4:=t_n4
 have n4:=z_n4
 clear t_n4 z_n4
 clear n3 n' f bv13
 have n3:=nn_
 clear nn_
 go_wp2_with fail
 refine(k_Nat _ q _ (hq.mod bv14)).mono ?_
 rintro e v15 ⟨t5,rfl,mm,nt⟩
 have s_n2_nt:=Sep.new n2 mm nt
 replace nt:=nt.mono bv14.size
 replace s_n2_n3:=Sep.mod s_n2_n3 n2 n3 mm
 replace s_n2_n4:=Sep.mod s_n2_n4 n2 n4 mm
 replace s_n3_n4:=Sep.mod s_n3_n4 n3 n4 mm
 replace n2:=(n2.mod mm)
 replace n3:=(n3.mod mm)
 replace n4:=(n4.mod mm)
 have bv15:=bv14.then mm
 clear mm bv14
 go_wp2_with fail
 refine(k_Mod _ _ x2 _ _ _ t5 _ _ n _ bv15 hn n2 nt s_n2_nt).mono ?_
 rintro e v16 ⟨rfl,f,-,n'⟩
 have nn_:=n'
 have bv16:=f.back bv15 n2
 have z_n3:=f.num s_n2_n3 n3
 have t_n3:=f.sep s_n2_n3 n3
 have z_n4:=f.num s_n2_n4 n4
 have t_n4:=f.sep s_n2_n4 n4
 have p_n3_n4:=f.sep2 s_n2_n3 s_n2_n4 s_n3_n4 n3 n4
 clear s_n3_n4
 have s_n3_n4:=p_n3_n4
 clear p_n3_n4
 clear s_n2_n3 n3
 have s_n2_n3:=t_n3
 have n3:=z_n3
 clear t_n3 z_n3
 clear s_n2_n4 n4
 have s_n2_n4:=t_n4
 have n4:=z_n4
 clear t_n4 z_n4
 clear n2 n' f bv15
 have n2:=nn_
 clear nn_
 clear nt
 clear s_n2_nt
 go_wp2_with fail
 refine(k_Mul _ _ x3 _ n _ _ x2 _ bv16 hn NO.out n3 n2 (Nat.lt_of_lt_of_le (Nat.mod_lt _ (by omega)) hpN)).mono ?_
 rintro e v17 ⟨rfl,f,-,n'⟩
 have nn_:=n'
 have bv17:=f.back bv16 n3
 have z_n2:=f.num s_n2_n3.symm n2
 have t_n2:=f.sep s_n2_n3.symm n2
 have z_n4:=f.num s_n3_n4 n4
 have t_n4:=f.sep s_n3_n4 n4
 have p_n2_n4:=f.sep2 s_n2_n3.symm s_n3_n4 s_n2_n4 n2 n4
 clear s_n2_n4
 have s_n2_n4:=p_n2_n4
 clear p_n2_n4
 clear s_n2_n3 n2
 have s_n2_n3:=t_n2.symm
 have n2:=z_n2
 clear t_n2 z_n2
 clear s_n3_n4 n4
 have s_n3_n4:=t_n4
 have n4:=z_n4
 clear t_n4 z_n4
 clear n3 n' f bv16
 have n3:=nn_
 clear nn_
 go_wp2_with fail
 refine(k_Expand _ _ x4 _ _ n _ n4 (hn.mod bv17) wqN).mono ?_
 rintro e v18 ⟨rfl,f,n'⟩
 have nn_:=n' bv17.size
 have bv18:=f.back bv17 n4
 have z_n2:=f.num s_n2_n4.symm n2
 have t_n2:=f.sep s_n2_n4.symm n2
 have z_n3:=f.num s_n3_n4.symm n3
 have t_n3:=f.sep s_n3_n4.symm n3
 have p_n2_n3:=f.sep2 s_n2_n4.symm s_n3_n4.symm s_n2_n3 n2 n3
 clear s_n2_n3
 have s_n2_n3:=p_n2_n3
 clear p_n2_n3
 clear s_n2_n4 n2
 have s_n2_n4:=t_n2.symm
 have n2:=z_n2
 clear t_n2 z_n2
 clear s_n3_n4 n3
 have s_n3_n4:=t_n3.symm
 have n3:=z_n3
 clear t_n3 z_n3
 clear n4 n' f bv17
 have n4:=nn_
 clear nn_
 go_wp2_with fail
 refine(k_Add _ _ x3 _ n _ _ x4 _ bv18 hn n3 n4 (Nat.mod_lt _ (by omega)) (Nat.lt_of_lt_of_le (Nat.mod_lt _ (by omega)) hqN)).mono ?_
 rintro e v19 ⟨rfl,f,-,n'⟩
 have nn_:=n'
 have bv19:=f.back bv18 n3
 have z_n2:=f.num s_n2_n3.symm n2
 have t_n2:=f.sep s_n2_n3.symm n2
 have z_n4:=f.num s_n3_n4 n4
 have t_n4:=f.sep s_n3_n4 n4
 have p_n2_n4:=f.sep2 s_n2_n3.symm s_n3_n4 s_n2_n4 n2 n4
 clear s_n2_n4
 have s_n2_n4:=p_n2_n4
 clear p_n2_n4
 clear s_n2_n3 n2
 have s_n2_n3:=t_n2.symm
 have n2:=z_n2
 clear t_n2 z_n2
 clear s_n3_n4 n4
 have s_n3_n4:=t_n4
 have n4:=z_n4
 clear t_n4 z_n4
 clear n3 n' f bv18
 have n3:=nn_
 clear nn_
 go_wp2_with fail
 refine(k_Bytes _ _ x3 _ _ n _ n3 (hn.mod bv19) (lt_size (Nat.mod_lt _ (by omega))) (by omega)).mono ?_
 rintro e v20 ⟨bkR,BR,rfl,mm,rwR,gbR,lB,hBR,eB⟩
 have GBR:Hid (w.heap.size≤bkR):=hide (Nat.le_trans (hz0.then bv19).size gbR)
 clear n3
 replace n2:=(n2.mod mm)
 replace n4:=(n4.mod mm)
 have bv20:=bv19.then mm
 clear mm bv19
 have LBR:=hide lB
 have EBR:=hide eB
 clear lB eB gbR
 go_wp2_with fail
 go_ret2
 exact⟨bkR,BR,rfl,(hz0.then bv20),rwR,LBR.out,hBR,EBR.out,GBR.out⟩
theorem bval_inj{A B:List Nat}(hA:Bytes A)(hB:Bytes B)(hl:A.length=B.length)(h:bval A=bval B):A=B:=by
 apply List.ext_getElem hl
 intro i h1 h2
 rw[←nth_eq A i h1,←nth_eq B i h2]
 have e1:=bseg_digit hA (e:=A.length) (k:=A.length-1-i) (t:=A.length) (by omega)
 have e2:=bseg_digit hB (e:=B.length) (k:=B.length-1-i) (t:=B.length) (by omega)
 rw[show A.length-1-(A.length-1-i)=i by omega]at e1
 rw[show B.length-1-(B.length-1-i)=i by omega]at e2
 rw[e1,e2]
 unfold bval at h
 rw[h,hl]
theorem Mod.then0{a b c:World}{S:List Nat}(h:Mod S a b)(k:Mod [] b c):Mod S a c:=h.trans k (fun _ h _=>h) (by simp)
theorem c_ctByteEqT(x y:Nat)(h:x=y)(w:World):Calls Tryz.prog 62 #[.int .u8 (x:Int),.int .u8 (y:Int)] w fun e w'=>e=.returned (.int .i64 1)∧w=w':=by
 have:=c_ctByteEq x y w
 rwa [if_pos h]at this
theorem c_ctByteEqF(x y:Nat)(h:x≠y)(w:World):Calls Tryz.prog 62 #[.int .u8 (x:Int),.int .u8 (y:Int)] w fun e w'=>e=.returned (.int .i64 0)∧w=w':=by
 have:=c_ctByteEq x y w
 rwa [if_neg h]at this
theorem ite_eq_of{x y:Nat}(h:x=y):(if x=y then (1:Int)else 0)=1:=if_pos h
set_option maxRecDepth 100000 in
theorem c_DecOAEP{ty fR fW fS fZ kb n:Nat}{AT:World→Nat→List Nat→Prop}{H:List Nat→List Nat}(MK:MethK ty fR fW fS fZ)(HC:HashC fR fW fS fZ kb AT H n)
 (w:World) (d g kp nn en dd p q pv qv dv iv Nv bP bQ qi z:Nat) (EP EQ S M lab C:List Nat) (vC vl:Value) (A:PrivAt w kp nn en dd p q pv qv dv iv Nv bP bQ qi EP EQ) (gC:GotB w vC C) (lC:C.length=(blen Nv+7)/8) (hc:bval C<Nv)
 (hNv:Nv=pv*qv) (po:pv%2=1) (qo:qv%2=1) (p3:3<pv) (q3:3<qv) (bN:blen Nv≤4000)
 (hD:AT w d []) (hG:AT w g []) (hdg:d≠g) (hl:SliceB w vl lab) (hld:Apart vl d) (ll:lab.length≤20000) (hS:S.length=n) (bS:Bytes S) (bM:Bytes M) (hz:(blen Nv+7)/8=2*n+2+z+M.length)
 (heq:crtM (bval C) pv qv dv iv Nv=bval (em6 H n ((blen Nv+7)/8) (em4 S (H lab) M z))) :
 Calls Tryz.prog 28 #[.iface ty (ptr d),.iface ty (ptr g),ptr kp,vC,vl] w fun e w'=>∃v,e=.returned (.tuple #[v,.nilIface])∧SliceB w' v M∧Mod [d,g] w w':=by
 obtain⟨K,hK⟩:∃K,K=(blen Nv+7)/8:=⟨_,rfl⟩
 have CDc:=hide (k_decryptN w kp nn en dd p q pv qv dv iv Nv bP bQ qi EP EQ A vC C gC lC hc hNv po qo p3 q3 bN)
 obtain⟨aC,cC,rfl⟩:=SliceB.isSlice gC.1
 have hkk:∃fl,PKey w kp nn en dd p q (sl bP 0 EP.length EP.length) (sl bQ 0 EQ.length EQ.length) qi fl:=A.hk
 have c0:w.cell? ⟨kp,0,none⟩=some (ptr nn):=by obtain⟨fl,h⟩:=hkk;exact PKey.c0 h
 have CSz:=hide (k_PSize w kp nn Nv c0 A.hn bN)
 rw[←hK]at hz heq lC CSz CDc
 rw[lC]at CDc ⊢
 have hn28:=HC.lo
 have hn64:=HC.hi
 have hK2:K≤1000:=by omega
 obtain⟨al,cl,rfl⟩:=SliceB.isSlice hl
 obtain⟨ml,hml⟩:∃ml,ml=M.length:=⟨_,rfl⟩
 rw[←hml]at hz
 have hnR:=MK.nR d
 have hnW:=MK.nW d
 have hnS:=MK.nS d
 have hnZ:=MK.nZ d
 have hmR:=MK.mR d
 have hmW:=MK.mW d
 have hmS:=MK.mS d
 have hmZ:=MK.mZ d
 have heR:=MK.eR
 have heW:=MK.eW
 have heS:=MK.eS
 have heZ:=MK.eZ
 obtain⟨n2,hn2⟩:∃n2,n2=n*2:=⟨_,rfl⟩
 obtain⟨n3,hn3⟩:∃n3,n3=n2+2:=⟨_,rfl⟩
 obtain⟨n1,hn1⟩:∃n1,n1=n+1:=⟨_,rfl⟩
 obtain⟨D,hDD⟩:∃D,D=K-n1:=⟨_,rfl⟩
 obtain⟨R,hRR⟩:∃R,R=D-n:=⟨_,rfl⟩
 have HX:=hide (And.intro hn2 (And.intro hn3 (And.intro hn1 (And.intro hDD (And.intro hRR (And.intro hz (And.intro hn28 (And.intro hn64 hK2))))))))
 have dlt:=HC.lt hD
 have glt:=HC.lt hG
 have HB:=hide (And.intro hdg (And.intro dlt.1 (And.intro glt.1 (And.intro dlt.2.1 (And.intro dlt.2.2 glt.2.2)))))
 have e1:(n:Int)*2=(n2:Int):=by omega
 have e2:(n2:Int)+2=(n3:Int):=by omega
 have w1:IntKind.i64.wrap (n2:Int)=(n2:Int):=IntWalk.i64_in _ (by omega)
 have w2:IntKind.i64.wrap (n3:Int)=(n3:Int):=IntWalk.i64_in _ (by omega)
 have g1:¬(K:Int)<(n3:Int):=by omega
 have HD:=hide hD
 have HG:=hide hG
 have HL:=hide (And.intro hl (And.intro hld ll))
 have HSS:=hide (And.intro hS (And.intro bS bM))
 have HEQ:=hide heq
 have HML:=hide hml
 clear hD hG hl hld ll hS bS bM heq hml hn2 hn3 hn1 hDD hRR hz hn28 hn64 hK2 dlt glt hdg lC hc hNv po qo p3 q3 bN gC A hkk c0 hK
 go_enter Tryz.func28,Tryz.ntmps28
 go_wp2_with fail
 refine CSz.out.mono ?_
 rintro e w' ⟨rfl,rfl⟩
 go_wp2_with fail
 refine(HC.size _ d [] HD.out).mono ?_
 rintro e w' ⟨rfl,hw⟩
 obtain rfl:=hw.symm
 go_wp2_with fail
 clear e1 e2 w1 w2 g1
 refine CDc.out.mono ?_
 rintro e wa ⟨b,B,rfl,ma,hB,lB,bB,eB,hbw⟩
 have hEB:B=em6 H n K (em4 S (H lab) M z):=by
  refine bval_inj bB (em6_bytes HC.ok (em4_bytes HSS.out.2.1 (HC.ok.bytes _) HSS.out.2.2)) ?_ (by rw[eB,HEQ.out])
  rw[lB,em6_length,em4_length HSS.out.1 (HC.ok.len _),←HML.out]
  have:=HX.out;omega
 rw[lB]
 obtain⟨E4,hE4⟩:∃E4,E4=em4 S (H lab) M z:=⟨_,rfl⟩
 rw[hEB,←hE4]at hB
 have lE4:E4.length=K:=by rw[hE4,em4_length HSS.out.1 (HC.ok.len _),←HML.out];have:=HX.out;omega
 have bE4:Bytes E4:=by rw[hE4];exact em4_bytes HSS.out.2.1 (HC.ok.bytes _) HSS.out.2.2
 have HE4:=hide (And.intro hE4 (And.intro lE4 bE4))
 have Da:=HC.up HD.out ma (by simp) (by simp)
 have hne:=HC.ne Da hB
 have Ga:=HC.up HG.out ma (by simp) (by simp)
 have hneg:=HC.ne Ga hB
 have HBB:=hide (And.intro hbw (And.intro hne.1 (And.intro hne.2 hneg.1)))
 have HDa:=hide Da
 clear CDc CSz hEB eB bB lB hE4 lE4 bE4 hne hneg hbw Ga Da
 go_wp2_with fail
 refine(HC.reset _ d [] HDa.out).mono ?_
 rintro e wb ⟨rfl,mb,Db⟩
 have La:=(HL.out.1.mod2 ma (by simp)).mod2 mb (by simpa using HL.out.2.1)
 have CW:=hide (HC.write wb d [] (.slice al lab.length cl) lab Db La HL.out.2.1 HL.out.2.2 (by simp) (.inr rfl))
 rw[List.nil_append]at CW
 have mab:Mod [d] w wb:=ma.then1 mb
 have hBb:=hB.mod mb (by simpa using HBB.out.2.1)
 clear La Db HDa hB mb
 go_wp2_with fail
 refine CW.out.mono ?_
 rintro e wc ⟨rfl,mc,Dc⟩
 have mac:Mod [d] w wc:=mab.trans mc (fun _ h _=>h) (fun _ h _=>h)
 have CS:=hide (HC.sum wc d lab wc.heap.size (.slice none 0 0) Dc (Own.nil _ _ _ _) (Nat.le_refl _) (by have:=HL.out.2.2;omega))
 have hBc:=hBb.mod mc (by simpa using HBB.out.2.1)
 have HDC:=hide Dc
 clear CW mc mab ma Dc hBb
 go_wp2_with fail
 refine CS.out.mono ?_
 rintro e wd ⟨vL,rfl,oL,md⟩
 have md':Mod [] wc wd:=md
 obtain⟨L,hL⟩:∃L,L=H lab:=⟨_,rfl⟩
 rw[←hL]at oL
 have lL:L.length=n:=by rw[hL];exact HC.ok.len _
 obtain⟨gl,capl,restl,rfl,hgl,hBl,hcapl,hmaxl⟩:∃g cap rest,vL=sl g 0 n cap∧wc.heap.size≤g∧Blk wd g 5 (L.map Go.Proofs.YtfgmnbmnpihjdaaGreatDoor.u8++rest)∧n+rest.length=cap∧cap≤maxLen:=by
  rcases oL.blk with⟨_,h⟩|⟨g,cap,rest,h1,h2,h3,h4,h5⟩
  ·rw[h]at lL;have:=HX.out;simp at lL;omega
  ·rw[lL]at h1 h4;exact⟨g,cap,rest,h1,h2,h3,h4,h5⟩
 have mad:Mod [d] w wd:=mac.trans md' (fun _ h _=>h) (by simp)
 have hBd:=hBc.mod md' (by simp)
 have hblt:=hBc.lt
 have Dd:=HC.up HDC.out md' (by simp) (by simp)
 have Gd:=HC.up HG.out mad (by simpa using fun h=>HB.out.1 h.symm) (by simpa using HB.out.2.2.2.2.1)
 have hgs:=mac.size
 have HGL:=hide (And.intro hgl (And.intro hblt hgs))
 have HBl:=hide (And.intro hBl (And.intro hL lL))
 have b0:wd.cell? ⟨b,0,none⟩=some (.int .u8 0):=by
  have h:=hBd.at 0 (by rw[em6_length,HE4.out.2.1];have:=HX.out;omega)
  rw[em6_zero (by rw[HE4.out.2.1];have:=HX.out;omega),HE4.out.1]at h
  exact h
 have CM1:=hide (fun w' (m:Mod [] wd w')=>c_mgf MK HC g b 1 n (K-1) n1 D D (em6 H n K E4) [] w' (HC.up Gd m (by simp) (by simp)) (hBd.mod m (by simp)) HBB.out.2.2.2 HBB.out.2.2.1 (by rw[em6_length,HE4.out.2.1];have:=HX.out;omega) (by rw[em6_length,HE4.out.2.1];have:=HX.out;omega) (by have:=HX.out;omega) (em6_bytes HC.ok HE4.out.2.2) (by have:=HX.out;omega) (by have:=HX.out;omega) (by have:=HX.out;omega) (Nat.le_refl _))
 have HMD:=hide mad
 have HDD:=hide Dd
 have hKpos:(0:Int)<(K:Int):=by have:=HX.out;omega
 clear CS oL hL lL hgl hBl hcapl hmaxl md md' mac mad hBd hBc hblt Dd Gd hgs HDC
 go_wp2_with fail
 refine(c_ctByteEq 0 0 wd).mono ?_
 rintro e w' ⟨rfl,rfl⟩
 rw[ite_eq_of rfl]
 have e4:(n:Int)+1=(n1:Int):=by have:=HX.out;omega
 have w4:IntKind.i64.wrap (n1:Int)=(n1:Int):=IntWalk.i64_in _ (by have:=HX.out;omega)
 have g2:(1:Int)≤(n1:Int):=by have:=HX.out;omega
 have g3:(n1:Int)≤(K:Int):=by have:=HX.out;omega
 have f1:K-n1=D:=by have:=HX.out;omega
 have f2:n1-1=n:=by have:=HX.out;omega
 have f3:¬K=n1:=by have:=HX.out;omega
 have f4:¬K=1:=by have:=HX.out;omega
 clear b0 hKpos
 go_wp2_with fail
 refine(HC.size _ d _ HDD.out).mono ?_
 rintro e w' ⟨rfl,hw⟩
 obtain rfl:=hw.symm
 go_wp2_with fail
 refine(HC.size _ d _ HDD.out).mono ?_
 rintro e w' ⟨rfl,hw⟩
 obtain rfl:=hw.symm
 go_wp2_with fail
 clear e4 w4 g2 g3 f1 f2 f3 f4
 refine(CM1.out _ (Mod.refl [] _)).mono ?_
 rintro e we ⟨rfl,me,⟨Me,Ge⟩,hBe⟩
 have hE5:xorAt H n (cut (em6 H n K E4) n1 D) 1 n (em6 H n K E4)=em5 H n K E4:=by rw[show n1=1+n by have:=HX.out;omega,show D=K-1-n by have:=HX.out;omega];exact em6_back1 HE4.out.2.1 (by have:=HX.out;omega)
 rw[hE5]at hBe
 have CM2:=hide (c_mgf MK HC g b n1 D D 1 n (K-1) (em5 H n K E4) Me we Ge hBe HBB.out.2.2.2 HBB.out.2.2.1 (by rw[em5_length,HE4.out.2.1];have:=HX.out;omega) (by rw[em5_length,HE4.out.2.1];have:=HX.out;omega) (by have:=HX.out;omega) (xorAt_bytes HC.ok HE4.out.2.2) (by have:=HX.out;omega) (by have:=HX.out;omega) (Nat.le_refl _) (by have:=HX.out;omega))
 have HME:=hide me
 clear CM1 Ge hBe hE5 me
 go_wp2_with fail
 refine CM2.out.mono ?_
 rintro e wf ⟨rfl,mf,-,hBf⟩
 have hE6:xorAt H n (cut (em5 H n K E4) 1 n) n1 D (em5 H n K E4)=E4:=by rw[show n1=1+n by have:=HX.out;omega,show D=K-1-n by have:=HX.out;omega];exact em6_back2 HE4.out.2.1 (by have:=HX.out;omega)
 rw[hE6]at hBf
 have mdf:Mod [g,b] wd wf:=HME.out.trans mf (fun _ h _=>h) (fun _ h _=>h)
 have mwf:Mod [d,g] w wf:=HMD.out.trans mdf (fun _ h _=>by simp at h;simp[h]) (fun x h hl=>by simp at h;rcases h with rfl|rfl;simp;have:=HBB.out;omega)
 have Df:=hide (HC.up HDD.out mdf (by simp;exact⟨HB.out.1,fun h=>HBB.out.2.1 h.symm⟩) (by simp;exact⟨HB.out.2.2.2.2.2,fun h=>HBB.out.2.2.1 h.symm⟩))
 have hBlf:=HBl.out.1.mod mdf (by have h1:=HGL.out;have h2:=HB.out;simp;omega)
 have CCmp:=hide (c_ctComp gl 0 capl b n1 D n L wf (by rw[HBl.out.2.1];exact HC.ok.bytes _) (by have:=HX.out;omega) (fun i hi=>by
  rw[Nat.zero_add,hBlf.cell,List.getElem?_append_left (by simpa [HBl.out.2.2]using hi),map_get (by rw[HBl.out.2.2];exact hi)]) (fun i hi=>by
  have hx:=HX.out
  rw[hBf.at (n1+i) (by rw[HE4.out.2.1];omega),HE4.out.1,nth_em4 HSS.out.1 (HC.ok.len lab),if_neg (by omega),if_neg (by omega),if_pos (by omega),HBl.out.2.1,show n1+i-1-n=i by omega]))
 have HBF:=hide hBf
 have HMWF:=hide mwf
 have f5:¬D=0:=by have:=HX.out;omega
 have g4:(n:Int)≤(D:Int):=by have:=HX.out;omega
 clear CM2 mf hBf hE6 mdf mwf hBlf HME HDD
 go_wp2_with fail
 refine(HC.size _ d _ Df.out).mono ?_
 rintro e w' ⟨rfl,hw⟩
 obtain rfl:=hw.symm
 go_wp2_with fail
 refine CCmp.out.mono ?_
 rintro e wg ⟨rfl,mg⟩
 have Dg:=hide (HC.up Df.out mg (by simp) (by simp))
 have HBG:=hide (HBF.out.mod mg (by simp))
 have HMWG:=hide (HMWF.out.then0 mg)
 clear CCmp Df HBF HMWF f5 mg
 have f6:D-n=R:=by have:=HX.out;omega
 have f7:¬D=n:=by have:=HX.out;omega
 go_wp2_with fail
 refine(HC.size _ d _ Dg.out).mono ?_
 rintro e w' ⟨rfl,hw⟩
 obtain rfl:=hw.symm
 go_wp2_with fail
 clear f6 f7 g4
 go_loopw [21,22,23,25] (fun lk ix iv ii wr=>∃i:Nat,lk=.int .i64 (if i≤z then 1 else 0)∧ix=.int .i64 (if i≤z then 0 else (z:Int))∧iv=.int .i64 0∧ii=i64 i∧i≤R∧wr=wg) (fun _ _ _ ii _=>R-(intOf ii).toNat)
 case atStart=>exact⟨0,by rw[if_pos (Nat.zero_le _)],by rw[if_pos (Nat.zero_le _)],rfl,rfl,by omega,rfl⟩
 case round=>
  obtain⟨i,rfl,rfl,rfl,rfl,hi,rfl⟩:=hrel
  have ei:IntKind.i64.wrap ((i:Int)+1)=((i+1:Nat):Int):=by rw[IntKind.wrap_i64];have:=HX.out;omega
  have b1:bits .and .i64 1 0=0:=by decide
  have b2:bits .and .i64 1 1=1:=by decide
  have b3:bits .and .i64 0 0=0:=by decide
  have b4:bits .and .i64 0 1=0:=by decide
  have b5:bits .andNot .i64 1 1=0:=by decide
  have b6:bits .andNot .i64 0 0=0:=by decide
  have b7:bits .andNot .i64 0 1=0:=by decide
  have b8:bits .andNot .i64 1 0=1:=by decide
  by_cases hR:i<R
  ·have g:(i:Int)<(R:Int):=by omega
   have hcell:=HBG.out.at (n1+n+i) (by rw[HE4.out.2.1];have:=HX.out;omega)
   rw[HE4.out.1,nth_em4 HSS.out.1 (HC.ok.len lab),if_neg (by have:=HX.out;omega),if_neg (by have:=HX.out;omega),if_neg (by have:=HX.out;omega)]at hcell
   rcases Nat.lt_trichotomy i z with hz|hz|hz
   ·rw[if_pos (by have:=HX.out;omega)]at hcell
    rw[if_pos (Nat.le_of_lt hz),if_pos (Nat.le_of_lt hz)]
    have HZ:=hide hz
    clear hz
    go_wp2_with fail
    refine(c_ctByteEqT 0 0 rfl _).mono ?_
    rintro e w' ⟨rfl,rfl⟩
    go_wp2_with fail
    refine(c_ctByteEqF 0 1 (by omega) _).mono ?_
    rintro e w' ⟨rfl,rfl⟩
    go_wp2_with fail
    refine(c_ctSelect0 _ _ _).mono ?_
    rintro e w' ⟨rfl,rfl⟩
    go_wp2_with fail
    refine(c_ctSelect0 _ _ _).mono ?_
    rintro e w' ⟨rfl,rfl⟩
    go_wp2_with fail
    refine(c_ctSelect0 _ _ _).mono ?_
    rintro e w' ⟨rfl,rfl⟩
    go_wp2_with fail
    go_roundw
    case rel=>exact⟨i+1,by rw[if_pos (by have:=HZ.out;omega)],by rw[if_pos (by have:=HZ.out;omega)],rfl,by first|rfl|(simp[i64];done),by omega,by first|rfl|trivial⟩
    case measure=>simp[intOf];omega
   ·rw[if_neg (by have:=HX.out;omega),if_pos (by have:=HX.out;omega)]at hcell
    rw[if_pos (Nat.le_of_eq hz),if_pos (Nat.le_of_eq hz)]
    have HZ:=hide hz
    clear hz
    go_wp2_with fail
    refine(c_ctByteEqF 1 0 (by omega) _).mono ?_
    rintro e w' ⟨rfl,rfl⟩
    go_wp2_with fail
    refine(c_ctByteEqT 1 1 rfl _).mono ?_
    rintro e w' ⟨rfl,rfl⟩
    go_wp2_with fail
    refine(c_ctSelect1 _ _ _).mono ?_
    rintro e w' ⟨rfl,rfl⟩
    go_wp2_with fail
    refine(c_ctSelect1 _ _ _).mono ?_
    rintro e w' ⟨rfl,rfl⟩
    go_wp2_with fail
    refine(c_ctSelect0 _ _ _).mono ?_
    rintro e w' ⟨rfl,rfl⟩
    go_wp2_with fail
    go_roundw
    case rel=>exact⟨i+1,by rw[if_neg (by have:=HZ.out;omega)],by rw[if_neg (by have:=HZ.out;omega),HZ.out],rfl,by first|rfl|(simp[i64];done),by omega,by first|rfl|trivial⟩
    case measure=>simp[intOf];omega
   ·rw[if_neg (by have:=HX.out;omega),if_neg (by have:=HX.out;omega)]at hcell
    rw[if_neg (by omega),if_neg (by omega)]
    obtain⟨x,hx⟩:∃x,x=nth M (n1+n+i-(2+2*n+z)):=⟨_,rfl⟩
    rw[←hx]at hcell
    have HZ:=hide hz
    clear hx hz
    by_cases hx0:x=0
    ·subst hx0
     go_wp2_with fail
     refine(c_ctByteEqT 0 0 rfl _).mono ?_
     rintro e w' ⟨rfl,rfl⟩
     go_wp2_with fail
     refine(c_ctByteEqF 0 1 (by omega) _).mono ?_
     rintro e w' ⟨rfl,rfl⟩
     go_wp2_with fail
     refine(c_ctSelect0 _ _ _).mono ?_
     rintro e w' ⟨rfl,rfl⟩
     go_wp2_with fail
     refine(c_ctSelect0 _ _ _).mono ?_
     rintro e w' ⟨rfl,rfl⟩
     go_wp2_with fail
     refine(c_ctSelect0 _ _ _).mono ?_
     rintro e w' ⟨rfl,rfl⟩
     go_wp2_with fail
     go_roundw
     case rel=>exact⟨i+1,by rw[if_neg (by have:=HZ.out;omega)],by rw[if_neg (by have:=HZ.out;omega)],rfl,by first|rfl|(simp[i64];done),by omega,by first|rfl|trivial⟩
     case measure=>simp[intOf];omega
    ·by_cases hx1:x=1
     ·subst hx1
      go_wp2_with fail
      refine(c_ctByteEqF 1 0 (by omega) _).mono ?_
      rintro e w' ⟨rfl,rfl⟩
      go_wp2_with fail
      refine(c_ctByteEqT 1 1 rfl _).mono ?_
      rintro e w' ⟨rfl,rfl⟩
      go_wp2_with fail
      refine(c_ctSelect0 _ _ _).mono ?_
      rintro e w' ⟨rfl,rfl⟩
      go_wp2_with fail
      refine(c_ctSelect1 _ _ _).mono ?_
      rintro e w' ⟨rfl,rfl⟩
      go_wp2_with fail
      refine(c_ctSelect0 _ _ _).mono ?_
      rintro e w' ⟨rfl,rfl⟩
      go_wp2_with fail
      go_roundw
      case rel=>exact⟨i+1,by rw[if_neg (by have:=HZ.out;omega)],by rw[if_neg (by have:=HZ.out;omega)],rfl,by first|rfl|(simp[i64];done),by omega,by first|rfl|trivial⟩
      case measure=>simp[intOf];omega
     ·have HX0:=hide hx0
      have HX1:=hide hx1
      clear hx0 hx1
      go_wp2_with fail
      refine(c_ctByteEqF x 0 HX0.out _).mono ?_
      rintro e w' ⟨rfl,rfl⟩
      go_wp2_with fail
      refine(c_ctByteEqF x 1 HX1.out _).mono ?_
      rintro e w' ⟨rfl,rfl⟩
      go_wp2_with fail
      refine(c_ctSelect0 _ _ _).mono ?_
      rintro e w' ⟨rfl,rfl⟩
      go_wp2_with fail
      refine(c_ctSelect0 _ _ _).mono ?_
      rintro e w' ⟨rfl,rfl⟩
      go_wp2_with fail
      refine(c_ctSelect0 _ _ _).mono ?_
      rintro e w' ⟨rfl,rfl⟩
      go_wp2_with fail
      go_roundw
      case rel=>exact⟨i+1,by rw[if_neg (by have:=HZ.out;omega)],by rw[if_neg (by have:=HZ.out;omega)],rfl,by first|rfl|(simp[i64];done),by omega,by first|rfl|trivial⟩
      case measure=>simp[intOf];omega
  ·obtain rfl:i=R:=by omega
   have hzi:¬i≤z:=by have:=HX.out;omega
   rw[if_neg hzi,if_neg hzi]
   have g:¬(i:Int)<(i:Int):=by omega
   obtain⟨z1,hz1⟩:∃z1,z1=z+1:=⟨_,rfl⟩
   have e1:(z:Int)+1=(z1:Int):=by omega
   have w1:IntKind.i64.wrap (z1:Int)=(z1:Int):=IntWalk.i64_in _ (by have:=HX.out;omega)
   have g1:(z1:Int)≤(i:Int):=by have:=HX.out;omega
   have HZ1:=hide hz1
   clear hz1 hzi hi
   by_cases hml:i=z1
   ·have HI:=hide hml
    subst hml
    go_wp2_with fail
    go_ret2
    refine⟨.slice (some ⟨b,n1+n,none⟩) 0 0,rfl,?_,HMWG.out⟩
    have h0:M=[]:=List.eq_nil_of_length_eq_zero (by have h1:=HX.out;have h2:=HZ1.out;rw[←HML.out];omega)
    exact .inr (.inl ⟨_,_,rfl,h0⟩)
   ·have f1:i-z1=ml:=by have h1:=HX.out;have h2:=HZ1.out;omega
    go_wp2_with fail
    go_ret2
    refine⟨sl b (n1+n+z1) ml ml,rfl,?_,HMWG.out⟩
    refine .inr (.inr ⟨b,n1+n+z1,ml,by rw[←HML.out],by rw[←HML.out];exact Nat.le_refl _,fun j hj=>?_⟩)
    rw[←HML.out]at hj
    have hx:=HX.out
    have hz2:=HZ1.out
    rw[HBG.out.at (n1+n+z1+j) (by rw[HE4.out.2.1];omega),HE4.out.1,nth_em4 HSS.out.1 (HC.ok.len lab),if_neg (by omega),if_neg (by omega),if_neg (by omega),if_neg (by omega),if_neg (by omega),show n1+n+z1+j-(2+2*n+z)=j by omega]
end Go.Proofs.YtfgmnbmnpihjdaaGreatDoor
