/- Lemmas of mine for the walk and its plain laws: ImpO SpecNV -/
import Derived.Test.YtfgmnbmnpihjdaaGreatDoorM40
import Derived.Test.YtfgmnbmnpihjdaaGreatDoorM41
import Derived.Test.YtfgmnbmnpihjdaaGreatDoorM24
import Derived.Test.YtfgmnbmnpihjdaaGreatDoorM22
set_option linter.all false
set_option exponentiation.threshold 7000000
set_option maxHeartbeats 4000000
namespace Go.Proofs.YtfgmnbmnpihjdaaGreatDoor
open Go.RowKit
set_option maxRecDepth 100000 in
theorem c_either(v:Value)(B:List Nat)(w:World)(hb:SliceB w v B)(hl:B.length≤100000):Calls Tryz.prog 23 #[v,.nilIface] w fun e w'=>∃v',e=.returned (.tuple #[v',.bool true])∧Mod [] w w'∧SliceB w' v' B∧∀b o n c,v'=sl b o n c→w.heap.size≤b∧b<w'.heap.size:=by
 obtain⟨a,c,rfl⟩:=SliceB.isSlice hb
 have C:=hide (c_copied _ B w hb hl)
 clear hb hl
 go_enter Tryz.func23,Tryz.ntmps23
 go_wp2_with fail
 refine C.out.mono ?_
 rintro e w1 ⟨v',rfl,m,h1,h2⟩
 have H:=hide (And.intro h1 h2)
 clear h1 h2
 go_wp2_with fail
 go_ret2
 exact⟨v',rfl,m,H.out.1,H.out.2⟩
set_option maxRecDepth 100000 in
theorem c_SealOAEP{KK KK':List Int}{n ty fR fW fS fZ kb:Nat}{AT:World→Nat→List Nat→Prop}(HO:HashOf KK KK' n ty fR fW fS fZ kb AT)(w:World)(en Nv z:Nat)(vN vS vM vL:Value)(BN S M lab:List Nat)
 (hK:Blk w 5 237 (KK.map v32)) (hK':Blk w 6 241 (KK'.map v64)) (hN:SliceB w vN BN) (bN:Bytes BN) (lN:BN.length≤512) (eN:bval BN=Nv) (no:Nv%2=1) (nb:blen Nv≤4000) (he1:3≤en) (he2:en<2147483648) (heo:en%2=1)
 (hS:SliceB w vS S) (bS:Bytes S) (lS:S.length=n) (hM:SliceB w vM M) (bM:Bytes M) (lM:M.length≤200) (hL:SliceB w vL lab) (lL:lab.length≤200) (hz:(blen Nv+7)/8=2*n+2+z+M.length)
 (hlt:bval (em6 (hashF KK KK' n) n ((blen Nv+7)/8) (em4 S (hashF KK KK' n lab) M z))<Nv) (h1N:1<Nv) :
 Calls Tryz.prog 10 #[vN,.int .i64 (en:Int),i64 (8*n),vS,vM,vL] w fun e w'=>∃v C,e=.returned (.tuple #[v,.bool true])∧Mod [] w w'∧GotB w' v C∧C.length=(blen Nv+7)/8∧bval C=bval (em6 (hashF KK KK' n) n ((blen Nv+7)/8) (em4 S (hashF KK KK' n lab) M z))^en%Nv:=by
 have HC:=HO.hc
 have hn28:=HC.lo
 have hn64:=HC.hi
 obtain⟨aN,cN,rfl⟩:=SliceB.isSlice hN
 obtain⟨aS,cS,rfl⟩:=SliceB.isSlice hS
 obtain⟨aM,cM,rfl⟩:=SliceB.isSlice hM
 obtain⟨aL,cL,rfl⟩:=SliceB.isSlice hL
 have C1:=hide (c_public_good (.slice aN BN.length cN) en BN w hN bN lN (by simp only[keyOk,Bool.and_eq_true,decide_eq_true_eq];rw[eN];omega))
 have hkb:kb<w.heap.size:=by rcases HO.kb with h|h;rw[h];exact hK.lt;rw[h];exact hK'.lt
 have e8:¬(1024:Int)<(S.length:Int):=by omega
 have e9:¬(100000:Int)<(M.length:Int):=by omega
 have e10:¬(100000:Int)<(lab.length:Int):=by omega
 have HKK:=hide (And.intro hK hK')
 have HSM:=hide (And.intro hS (And.intro hM hL))
 have HP:=hide (And.intro eN (And.intro no (And.intro nb (And.intro he1 (And.intro he2 (And.intro heo (And.intro bS (And.intro lS (And.intro bM (And.intro lM (And.intro lL (And.intro hz (And.intro hlt (And.intro hn28 hn64))))))))))))))
 have HKB:=hide hkb
 clear hK hK' hN bN lN eN no nb he1 he2 heo hS bS lS hM bM lM hL lL hz hlt h1N hn28 hn64 hkb
 go_enter Tryz.func10,Tryz.ntmps10
 go_wp2_with fail
 refine C1.out.mono ?_
 rintro e w1 ⟨k,m,x,p,Mm,R,rfl,m1,hk,hMo,eM,-⟩
 have hMd:MdAt w1 m Nv:=⟨_,_,_,_,_,hMo,by rw[eM,HP.out.1]⟩
 have HPK:=hide (And.intro hk hMd)
 clear hk hMo eM hMd C1
 go_wp2_with fail
 refine(HO.of w1 (HKK.out.1.mod m1 (by simp)) (HKK.out.2.mod m1 (by simp))).mono ?_
 rintro e w2 ⟨d,s1,rfl,m2,hd,Ad⟩
 have HAd:=hide Ad
 have m12:=m1.then1 m2
 clear Ad
 go_wp2_with fail
 refine(HO.of w2 (HKK.out.1.mod m12 (by simp)) (HKK.out.2.mod m12 (by simp))).mono ?_
 rintro e w3 ⟨g,s2,rfl,m3,hg,Ag⟩
 have HAg:=hide Ag
 have m13:=m12.then1 m3
 have CS:=hide (c_copied _ S w3 (HSM.out.1.mod m13 (by simp)) (by have:=HP.out;omega))
 clear Ag
 go_wp2_with fail
 refine CS.out.mono ?_
 rintro e w4 ⟨vs,rfl,m4,hs4,ns4⟩
 obtain⟨sb,so,sc,rfl,hsc,hcs⟩:∃sb so sc,vs=sl sb so S.length sc∧S.length≤sc∧CellsB w4 sb so S:=by
  rcases hs4 with⟨_,h⟩|⟨_,_,_,h⟩|h
  ·have:=HP.out;rw[h]at this;simp at this;omega
  ·have:=HP.out;rw[h]at this;simp at this;omega
  ·exact h
 have hsb:=ns4 _ _ _ _ rfl
 have HCS:=hide (And.intro hsc (And.intro hcs hsb))
 have m14:=m13.then1 m4
 clear hs4 ns4 hsc hcs hsb CS
 go_wp2_with fail
 refine(c_NewReader _ _ _ w4).mono ?_
 rintro e w5 ⟨rfl,m5,hr5⟩
 have HR:=hide hr5
 have m15:=m14.then1 m5
 have CM:=hide (c_copied _ M w5 (HSM.out.2.1.mod m15 (by simp)) (by have:=HP.out;omega))
 have r5:=hr5.lt
 clear hr5
 go_wp2_with fail
 refine CM.out.mono ?_
 rintro e w6 ⟨vm,rfl,m6,hm6,nm6⟩
 have m16:=m15.then1 m6
 have CL:=hide (c_copied _ lab w6 (HSM.out.2.2.mod m16 (by simp)) (by have:=HP.out;omega))
 have HM6:=hide (And.intro hm6 nm6)
 clear hm6 nm6 CM
 go_wp2_with fail
 refine CL.out.mono ?_
 rintro e w7 ⟨vl,rfl,m7,hl7,nl7⟩
 have HL7:=hide (And.intro hl7 nl7)
 have m27:Mod [] w1 w7:=((((m2.then1 m3).then1 m4).then1 m5).then1 m6).then1 m7
 have m37:Mod [] w3 w7:=((m4.then1 m5).then1 m6).then1 m7
 have m47:Mod [] w4 w7:=(m5.then1 m6).then1 m7
 have m57:Mod [] w5 w7:=m6.then1 m7
 have ltd:=HC.lt HAd.out
 have ltg:=HC.lt HAg.out
 have z1:=m1.size
 have z2:=m2.size
 have z3:=m3.size
 have z4:=m4.size
 have z5:=m5.size
 have z6:=m6.size
 have z7:=m7.size
 have A7:=HC.up HAd.out (m3.then1 m37) (by simp) (by simp)
 have G7:=HC.up HAg.out m37 (by simp) (by simp)
 have CE:=hide (c_EncOAEP HO.meth HC w1 w7 d g w4.heap.size sb so sc k m en Nv z S M lab vm vl m27 HPK.out.1 HPK.out.2 HP.out.2.1 HP.out.2.2.2.1 HP.out.2.2.2.2.1 HP.out.2.2.2.2.2.1 HP.out.2.2.1
  A7 G7 (by omega) hd (by omega) (by omega) (by have:=HKB.out;omega) (by have h:=HR.out.mod m57 (by simp);rw[HP.out.2.2.2.2.2.2.2.1]at h;exact h) (by omega) (by omega) HP.out.2.2.2.2.2.2.2.1 (HCS.out.2.1.mod m47 (by simp)) HP.out.2.2.2.2.2.2.1 (by have:=HCS.out.1;have:=HP.out;omega) (by have:=HCS.out.2.2;omega) (by have:=HCS.out.2.2;omega)
  (HM6.out.1.mod m7 (by simp)) HP.out.2.2.2.2.2.2.2.2.1 (fun b o n c e h=>by have:=HM6.out.2 b o n c e;omega) hl7 (fun b o n c e h=>by have:=nl7 b o n c e;omega) HP.out.2.2.2.2.2.2.2.2.2.2.2.1 (by have:=HP.out;omega) (by have:=HP.out;omega) HP.out.2.2.2.2.2.2.2.2.2.2.2.2.1)
 have m17:=m16.then1 m7
 clear hl7 nl7 CL ltd ltg z1 z2 z3 z4 z5 z6 z7 A7 G7 m37 m47 m57 r5 hd hg m2 m3 m4 m5 m6 m7 m12 m13 m14 m15 m16
 obtain⟨am,cm,rfl⟩:=SliceB.isSlice HM6.out.1
 obtain⟨al,cl,rfl⟩:=SliceB.isSlice HL7.out.1
 go_wp2_with fail
 refine CE.out.mono ?_
 rintro e w8 ⟨b,C,rfl,m8,hC,lC,bC,eC⟩
 have m18:Mod [] w w8:=m1.then1 m8
 have hgot:=GotB.row hC bC
 have CF:=hide (c_either _ C w8 hgot.1 (by rw[lC];have:=HP.out.2.2.1;omega))
 have HF:=hide (And.intro lC (And.intro bC eC))
 clear hC lC bC eC hgot CE m8
 go_wp2_with fail
 refine CF.out.mono ?_
 rintro e w9 ⟨v9,rfl,m9,h9,n9⟩
 have H9:=hide (And.intro h9 n9)
 have m19:=m18.then1 m9
 clear h9 n9 CF
 go_wp2_with fail
 go_ret2
 exact⟨v9,C,rfl,m19,⟨H9.out.1,HF.out.2.1,fun b o n c e=>(H9.out.2 b o n c e).2⟩,HF.out.1,HF.out.2.2⟩
structure OKey(w:World)(vN vD vP vQ:Value)(BN BD BP BQ:List Nat)(en pv qv dv Nv:Nat):Prop where
 gN:GotB w vN BN
 gD:GotB w vD BD
 gP:GotB w vP BP
 gQ:GotB w vQ BQ
 eN:bval BN=Nv
 eD:bval BD=dv
 eP:bval BP=pv
 eQ:bval BQ=qv
 lN:BN.length≤512
 lP:BP.length≤512
 lQ:BQ.length≤512
 lD:BD.length≤8*wlen Nv
 lD2:BD.length≤512
 lD0:0<BD.length
 lQ0:0<BQ.length
 hNv:Nv=pv*qv
 bN:blen Nv≤4000
 bN2:88≤blen Nv
 kl:KeyLaw pv qv en dv ((qv%pv)^(pv-1-1)%pv)
theorem OKey.up{w w':World}{vN vD vP vQ:Value}{BN BD BP BQ:List Nat}{en pv qv dv Nv:Nat}(h:OKey w vN vD vP vQ BN BD BP BQ en pv qv dv Nv)(m:Mod [] w w'):OKey w' vN vD vP vQ BN BD BP BQ en pv qv dv Nv:=by
 exact {h with gN:=h.gN.mod m,gD:=h.gD.mod m,gP:=h.gP.mod m,gQ:=h.gQ.mod m}
set_option maxRecDepth 100000 in
theorem c_OpenOAEP{KK KK':List Int}{n ty fR fW fS fZ kb:Nat}{AT:World→Nat→List Nat→Prop}(HO:HashOf KK KK' n ty fR fW fS fZ kb AT)(w:World)(vN vD vP vQ vC vL:Value)(BN BD BP BQ:List Nat)(en pv qv dv Nv z:Nat)(S M lab C:List Nat)
 (O:OKey w vN vD vP vQ BN BD BP BQ en pv qv dv Nv) (hK:Blk w 5 237 (KK.map v32)) (hK':Blk w 6 241 (KK'.map v64)) (gC:GotB w vC C) (lC:C.length=(blen Nv+7)/8) (hlt:bval C<Nv)
 (bS:Bytes S) (lS:S.length=n) (bM:Bytes M) (hL:SliceB w vL lab) (lL:lab.length≤200) (hz:(blen Nv+7)/8=2*n+2+z+M.length)
 (heq:crtM (bval C) pv qv dv ((qv%pv)^(pv-1-1)%pv) Nv=bval (em6 (hashF KK KK' n) n ((blen Nv+7)/8) (em4 S (hashF KK KK' n lab) M z))) :
 Calls Tryz.prog 11 #[.agg #[vN,.int .i64 (en:Int),vD,vP,vQ],i64 (8*n),vC,vL] w fun e w'=>∃v,e=.returned (.tuple #[v,.bool true])∧Mod [] w w'∧SliceB w' v M:=by
 have HC:=HO.hc
 have hn28:=HC.lo
 have hn64:=HC.hi
 obtain⟨aN,cN,rfl⟩:=SliceB.isSlice O.gN.1
 obtain⟨aD,cD,rfl⟩:=SliceB.isSlice O.gD.1
 obtain⟨aP,cP,rfl⟩:=SliceB.isSlice O.gP.1
 obtain⟨aQ,cQ,rfl⟩:=SliceB.isSlice O.gQ.1
 obtain⟨aC,cC,rfl⟩:=SliceB.isSlice gC.1
 obtain⟨aL,cL,rfl⟩:=SliceB.isSlice hL
 have C1:=hide (fun w' (m:Mod [] w w')=>k_private w' _ _ _ _ BN BD BP BQ en pv qv dv Nv (O.gN.mod m) (O.gD.mod m) (O.gP.mod m) (O.gQ.mod m) O.eN O.eD O.eP O.eQ O.lN O.lP O.lQ O.lD O.lD2 O.lD0 O.lQ0 O.hNv O.bN O.kl)
 have hA:=Blk.new w 29 [.slice aN BN.length cN,.int .i64 en,.slice aD BD.length cD,.slice aP BP.length cP,.slice aQ BQ.length cQ]
 have m0:Mod [] w (w.alloc (.cells #[.slice aN BN.length cN,.int .i64 en,.slice aD BD.length cD,.slice aP BP.length cP,.slice aQ BQ.length cQ] 29)):=(Mod.refl [] w).alloc _
 have q0:(w.alloc (.cells #[.slice aN BN.length cN,.int .i64 en,.slice aD BD.length cD,.slice aP BP.length cP,.slice aQ BQ.length cQ] 29)).cell? ⟨w.heap.size,0,none⟩=some (.slice aN BN.length cN):=by rw[hA.cell];rfl
 have q1:(w.alloc (.cells #[.slice aN BN.length cN,.int .i64 en,.slice aD BD.length cD,.slice aP BP.length cP,.slice aQ BQ.length cQ] 29)).cell? ⟨w.heap.size,1,none⟩=some (.int .i64 en):=by rw[hA.cell];rfl
 have q2:(w.alloc (.cells #[.slice aN BN.length cN,.int .i64 en,.slice aD BD.length cD,.slice aP BP.length cP,.slice aQ BQ.length cQ] 29)).cell? ⟨w.heap.size,2,none⟩=some (.slice aD BD.length cD):=by rw[hA.cell];rfl
 have q3:(w.alloc (.cells #[.slice aN BN.length cN,.int .i64 en,.slice aD BD.length cD,.slice aP BP.length cP,.slice aQ BQ.length cQ] 29)).cell? ⟨w.heap.size,3,none⟩=some (.slice aP BP.length cP):=by rw[hA.cell];rfl
 have q4:(w.alloc (.cells #[.slice aN BN.length cN,.int .i64 en,.slice aD BD.length cD,.slice aP BP.length cP,.slice aQ BQ.length cQ] 29)).cell? ⟨w.heap.size,4,none⟩=some (.slice aQ BQ.length cQ):=by rw[hA.cell];rfl
 obtain⟨lc,hlc⟩:∃lc,lc=C.length:=⟨_,rfl⟩
 have e8:¬(1024:Int)<(lc:Int):=by have:=O.bN;omega
 have e10:¬(100000:Int)<(lab.length:Int):=by omega
 have HKK:=hide (And.intro hK hK')
 have HO2:=hide O
 have HG:=hide (And.intro gC (And.intro lC hlt))
 have HP:=hide (And.intro bS (And.intro lS (And.intro bM (And.intro hL (And.intro lL (And.intro hz (And.intro heq (And.intro hn28 hn64))))))))
 have HLC:=hide hlc
 rw[←hlc]
 clear O hK hK' gC lC hlt bS lS bM hL lL hz heq hn28 hn64 hlc hA
 go_enter Tryz.func11,Tryz.ntmps11
 go_wp2_with fail
 refine(C1.out _ m0).mono ?_
 rintro e w1 ⟨k,nn,dd,p,q,bP,bQ,qi,EP,EQ,rfl,m1,A⟩
 have m01:=m0.then1 m1
 have HA:=hide A
 clear q0 q1 q2 q3 q4 A m0 m1 C1
 go_wp2_with fail
 refine(HO.of w1 (HKK.out.1.mod m01 (by simp)) (HKK.out.2.mod m01 (by simp))).mono ?_
 rintro e w2 ⟨d,s1,rfl,m2,hd,Ad⟩
 have HAd:=hide Ad
 have m02:=m01.then1 m2
 clear Ad
 go_wp2_with fail
 refine(HO.of w2 (HKK.out.1.mod m02 (by simp)) (HKK.out.2.mod m02 (by simp))).mono ?_
 rintro e w3 ⟨g,s2,rfl,m3,hg,Ag⟩
 have HAg:=hide Ag
 have m03:=m02.then1 m3
 have CS:=hide (c_copied _ C w3 (HG.out.1.1.mod m03 (by simp)) (by have:=HG.out.2.1;have:=HO2.out.bN;omega))
 rw[←HLC.out]at CS
 clear Ag
 go_wp2_with fail
 refine CS.out.mono ?_
 rintro e w4 ⟨vc,rfl,m4,hc4,nc4⟩
 have m04:=m03.then1 m4
 have CL:=hide (c_copied _ lab w4 (HP.out.2.2.2.1.mod m04 (by simp)) (by have:=HP.out.2.2.2.2.1;omega))
 have HC4:=hide (And.intro hc4 nc4)
 clear hc4 nc4 CS
 go_wp2_with fail
 refine CL.out.mono ?_
 rintro e w5 ⟨vl,rfl,m5,hl5,nl5⟩
 have HL5:=hide (And.intro hl5 nl5)
 have m05:=m04.then1 m5
 have m15:Mod [] w1 w5:=((m2.then1 m3).then1 m4).then1 m5
 have m35:Mod [] w3 w5:=m4.then1 m5
 have ltd:=HC.lt HAd.out
 have ltg:=HC.lt HAg.out
 have z1:=m01.size
 have z2:=m2.size
 have z3:=m3.size
 have z4:=m4.size
 have z5:=m5.size
 have A5:=HC.up HAd.out (m3.then1 m35) (by simp) (by simp)
 have G5:=HC.up HAg.out m35 (by simp) (by simp)
 have CD:=hide (c_DecOAEP HO.meth HC w5 d g k nn en dd p q pv qv dv _ Nv bP bQ qi z EP EQ S M lab C vc vl (HA.out.up m15) ⟨HC4.out.1.mod m5 (by simp),HG.out.1.2.1,fun b o n c e=>by have:=(HC4.out.2 b o n c e).2;omega⟩ HG.out.2.1 HG.out.2.2 HO2.out.hNv HO2.out.kl.po HO2.out.kl.qo HO2.out.kl.p3 HO2.out.kl.q3 HO2.out.bN
  A5 G5 (by omega) hl5 (fun b o n c e h=>by have:=nl5 b o n c e;omega) (by have:=HP.out.2.2.2.2.1;omega) HP.out.2.1 HP.out.1 HP.out.2.2.1 HP.out.2.2.2.2.2.1 HP.out.2.2.2.2.2.2.1)
 have hdw:w.heap.size≤d:=by omega
 have hgw:w.heap.size≤g:=by omega
 have HDG:=hide (And.intro hdw hgw)
 clear hl5 nl5 CL ltd ltg z1 z2 z3 z4 z5 A5 G5 m15 m35 hd hg m2 m3 m4 m5 m01 m02 m03 m04 hdw hgw
 obtain⟨ac,cc,rfl⟩:=SliceB.isSlice HC4.out.1
 obtain⟨al,cl,rfl⟩:=SliceB.isSlice HL5.out.1
 go_wp2_with fail
 refine CD.out.mono ?_
 rintro e w6 ⟨v6,rfl,h6,m6⟩
 have m06:Mod [] w w6:=m05.trans m6 (by simp) (fun x h hl=>by have:=HDG.out;simp at h;omega)
 have CF:=hide (c_either _ M w6 h6 (by have:=HP.out.2.2.2.2.2.1;have:=HO2.out.bN;omega))
 obtain⟨a6,c6,rfl⟩:=SliceB.isSlice h6
 clear CD h6 m6 m05
 go_wp2_with fail
 refine CF.out.mono ?_
 rintro e w7 ⟨v7,rfl,m7,h7,-⟩
 have H7:=hide h7
 have m07:=m06.then1 m7
 clear h7 CF
 go_wp2_with fail
 go_ret2
 exact⟨v7,rfl,m07,H7.out⟩
def NatV(w:World)(v:Value)(n:Nat):Prop:=∃L,SliceK i64 w v L∧Canon L∧valS L=n
theorem NatV.mod{w w':World}{v:Value}{n:Nat}(h:NatV w v n)(m:Mod [] w w'):NatV w' v n:=by
 obtain⟨L,h1,h2,h3⟩:=h
 exact⟨L,h1.mod m (by simp),h2,h3⟩
theorem NatV.lit{w:World}{v:Value}{n:Nat}(h:NatV w v n):∃a k c,v=.slice a k c:=by
 obtain⟨L,h1,h2,h3⟩:=h
 obtain⟨a,c,e⟩:=h1.lit
 exact⟨a,_,c,e⟩
theorem n_Bit(i:Nat)(hi:i≤100000)(w:World):Calls Tryz.prog 30 #[i64 i] w fun e w'=>∃v,e=.returned v∧Mod [] w w'∧NatV w' v (2^i):=by
 refine(c_Bit i hi w).mono ?_
 rintro e w' ⟨v,rfl,m,h⟩
 exact⟨v,rfl,m,_,h.slice,bitL_canon i,bitL_val i⟩
theorem n_Small(n:Nat)(hn:n<2^62)(w:World):Calls Tryz.prog 31 #[i64 n] w fun e w'=>∃v,e=.returned v∧Mod [] w w'∧NatV w' v n:=by
 refine(c_Small n hn w).mono ?_
 rintro e w' ⟨v,L,rfl,m,h,c,e⟩
 exact⟨v,rfl,m,_,h.slice,c,e⟩
theorem n_Add(va vb:Value)(a b:Nat)(w:World)(ha:NatV w va a)(hb:NatV w vb b)(la:a<lim)(lb:b<lim):Calls Tryz.prog 33 #[va,vb] w fun e w'=>∃v,e=.returned v∧Mod [] w w'∧NatV w' v (a+b):=by
 obtain⟨A,h1,h2,rfl⟩:=ha
 obtain⟨B,g1,g2,rfl⟩:=hb
 have l1:=h2.lim la
 have l2:=g2.lim lb
 refine(c_sAdd va vb A B w h1 g1 h2.digits g2.digits (by omega) (by omega)).mono ?_
 rintro e w' ⟨v,L,rfl,m,h,c,e,-⟩
 exact⟨v,rfl,m,L,h,c,e⟩
theorem n_Sub(va vb:Value)(a b:Nat)(w:World)(ha:NatV w va a)(hb:NatV w vb b)(la:a<lim)(hle:b≤a):Calls Tryz.prog 29 #[va,vb] w fun e w'=>∃v,e=.returned v∧Mod [] w w'∧NatV w' v (a-b):=by
 obtain⟨A,h1,h2,rfl⟩:=ha
 obtain⟨B,g1,g2,rfl⟩:=hb
 have l1:=h2.lim la
 refine(c_sSub va vb A B w h1 g1 h2.digits g2 hle (by omega)).mono ?_
 rintro e w' ⟨v,L,rfl,m,h,c,e,-⟩
 exact⟨v,rfl,m,L,h,c,e⟩
theorem n_Mul(va vb:Value)(a b:Nat)(w:World)(ha:NatV w va a)(hb:NatV w vb b)(la:a<lim)(lb:b<lim):Calls Tryz.prog 35 #[va,vb] w fun e w'=>∃v,e=.returned v∧Mod [] w w'∧NatV w' v (a*b):=by
 obtain⟨A,h1,h2,rfl⟩:=ha
 obtain⟨B,g1,g2,rfl⟩:=hb
 have l1:=h2.lim la
 have l2:=g2.lim lb
 refine(c_sMul va vb A B w h1 g1 h2.digits g2.digits (by omega) (by omega)).mono ?_
 rintro e w' ⟨v,L,rfl,m,h,c,e,-⟩
 exact⟨v,rfl,m,L,h,c,e⟩
theorem n_Gcd(va vb:Value)(a b:Nat)(w:World)(ha:NatV w va a)(hb:NatV w vb b)(la:a<lim)(lb:b<lim):Calls Tryz.prog 36 #[va,vb] w fun e w'=>∃v,e=.returned v∧Mod [] w w'∧NatV w' v (Nat.gcd a b):=by
 obtain⟨A,h1,h2,rfl⟩:=ha
 obtain⟨B,g1,g2,rfl⟩:=hb
 have l1:=h2.lim la
 have l2:=g2.lim lb
 refine(c_Gcd va vb A B w h1 g1 h2 g2 (by omega) (by omega)).mono ?_
 rintro e w' ⟨v,L,rfl,m,h,c,e⟩
 exact⟨v,rfl,m,L,h,c,e⟩
theorem n_DivMod(va vb:Value)(a b:Nat)(w:World)(ha:NatV w va a)(hb:NatV w vb b)(la:a<lim)(hb0:b≠0):Calls Tryz.prog 34 #[va,vb] w fun e w'=>∃v u,e=.returned (.tuple #[v,u])∧Mod [] w w'∧NatV w' v (a/b)∧NatV w' u (a%b):=by
 obtain⟨A,h1,h2,rfl⟩:=ha
 obtain⟨B,g1,g2,rfl⟩:=hb
 have l1:=h2.lim la
 refine(c_DivMod va vb A B w h1 g1 h2 g2 (by omega) hb0).mono ?_
 rintro e w' ⟨v,u,Q,R,rfl,m,k1,k2,k3,-,k4,k5,k6,-⟩
 exact⟨v,u,rfl,m,⟨Q,k1,k2,k3⟩,⟨R,k4,k5,k6⟩⟩
theorem n_OfBytes(v:Value)(B:List Nat)(w:World)(h:SliceB w v B)(hB:Bytes B)(hbig:B.length≤100000):Calls Tryz.prog 9 #[v] w fun e w'=>∃v',e=.returned v'∧Mod [] w w'∧NatV w' v' (bval B):=by
 refine(c_OfBytes v B w h hB hbig).mono ?_
 rintro e w' ⟨v,L,rfl,m,h,c,e,-⟩
 exact⟨v,rfl,m,L,h,c,e⟩
theorem n_Length(va:Value)(a:Nat)(w:World)(ha:NatV w va a)(la:a<lim):Calls Tryz.prog 7 #[va] w fun e w'=>e=.returned (i64 ((blen a+7)/8))∧Mod [] w w':=by
 obtain⟨A,h1,h2,rfl⟩:=ha
 have l1:=h2.lim la
 exact c_Length va A w h1 h2 (by omega)
theorem n_Cmp(va vb:Value)(a b:Nat)(w:World)(ha:NatV w va a)(hb:NatV w vb b)(la:a<lim):Calls Tryz.prog 8 #[va,vb] w fun e w'=>e=.returned (.int .i64 (cmpV a b))∧Mod [] w w':=by
 obtain⟨A,h1,h2,rfl⟩:=ha
 obtain⟨B,g1,g2,rfl⟩:=hb
 have l1:=h2.lim la
 exact c_Cmp va vb A B w h1 g1 h2 g2 (by omega)
theorem n_Make(va:Value)(a:Nat)(w:World)(ha:NatV w va a):Calls Tryz.prog 38 #[.bool false,va] w fun e w'=>∃v,e=.returned v∧Mod [] w w'∧IntIs w' v (a:Int):=by
 obtain⟨A,h1,h2,rfl⟩:=ha
 refine(c_Make false va A w h1 h2).mono ?_
 rintro e w' ⟨v,rfl,m,h⟩
 rw[if_neg (by simp)]at h
 exact⟨v,rfl,m,h⟩
def ByV(w:World)(v:Value)(B:List Nat):Prop:=SliceB w v B∧Bytes B∧∀b o n c,v=sl b o n c→b<w.heap.size
theorem ByV.mod{w w':World}{v:Value}{B:List Nat}(h:ByV w v B)(m:Mod [] w w'):ByV w' v B:=⟨h.1.mod m (by simp),h.2.1,fun b o n c e=>Nat.lt_of_lt_of_le (h.2.2 b o n c e) m.size⟩
theorem n_Bytes(va:Value)(a n:Nat)(w:World)(ha:NatV w va a)(hn:n≤400000)(hfit:a<256^n):Calls Tryz.prog 39 #[va,i64 n] w fun e w'=>∃v B,e=.returned v∧Mod [] w w'∧ByV w' v B∧B.length=n∧bval B=a:=by
 obtain⟨A,h1,h2,rfl⟩:=ha
 refine(c_sBytes va A n w h1 h2.digits hn hfit).mono ?_
 rintro e w' ⟨v,O,rfl,m,h,hl,hB,hv⟩
 refine⟨v,O,rfl,m,⟨?_,hB,fun b o n c e=>(h.lt b o n c e).2⟩,hl,hv⟩
 rcases h.slice with⟨h3,h4⟩|⟨b,o,c,h3,h4,h5⟩
 ·exact .inl ⟨h3,h4⟩
 ·exact .inr (.inr ⟨b,o,c,h3,h4,h5⟩)
end Go.Proofs.YtfgmnbmnpihjdaaGreatDoor
