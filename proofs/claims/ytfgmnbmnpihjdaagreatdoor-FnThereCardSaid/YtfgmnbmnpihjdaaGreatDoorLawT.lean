/- laws.FnThere. -/
import Derived.Test.YtfgmnbmnpihjdaaGreatDoorM46
set_option linter.all false
set_option exponentiation.threshold 7000000
set_option maxHeartbeats 8000000
namespace Go.Proofs.YtfgmnbmnpihjdaaGreatDoor
open Go.RowKit
def CellS(W:World)(k:Nat)(v:Value)(w':World):Prop:=w'.cell? ⟨k,0,none⟩=some v∧Mod [] W w'
theorem CellS.up{W w' w'':World}{k:Nat}{v:Value}(h:CellS W k v w')(m:Mod [] w' w''):CellS W k v w'':=⟨cell_up0 h.1 m,h.2.then m⟩
set_option maxRecDepth 100000 in
theorem c_FnThere(K K':List Int)(pb qb eb hb:Nat)(vS vM vL:Value)(S M lab:List Nat)(w:World)(hp:pb<256)(hq:qb<256)(he:eb<4294967296)(hh:hb<256)(hS:SliceB w vS S)(bS:Bytes S)(hM:SliceB w vM M)(bM:Bytes M)(hL:SliceB w vL lab)(bL:Bytes lab)
 (lK:K.length=64) (lK':K'.length=80) (hK:Blk w 5 237 (K.map v32)) (hK':Blk w 6 241 (K'.map v64)) :
 Calls Tryz.prog 3 #[.int .u8 pb,.int .u8 qb,.int .u32 eb,.int .u8 hb,vS,vM,vL] w fun r w'=>r=.returned (.bool true)∧Mod [] w w':=by
 obtain⟨aS,cS,rfl⟩:=SliceB.isSlice hS
 obtain⟨aM,cM,rfl⟩:=SliceB.isSlice hM
 obtain⟨aL,cL,rfl⟩:=SliceB.isSlice hL
 by_cases hbS:S.length≤2147483647
 rotate_left
 ·have g1:decide ((2147483647:Int)<(S.length:Int))=true:=decide_eq_true (by omega)
  clear hbS hp hq he hh lK lK' hK hK' hS hM hL bS bM bL
  go_enter Tryz.func3,Tryz.ntmps3
  go_wp2_with fail
  go_ret
  exact⟨rfl,Mod.refl _ _⟩
 have g1:decide ((2147483647:Int)<(S.length:Int))=false:=decide_eq_false (by omega)
 by_cases hbM:M.length≤2147483647
 rotate_left
 ·have g2:decide ((2147483647:Int)<(M.length:Int))=true:=decide_eq_true (by omega)
  clear hbM hbS hp hq he hh lK lK' hK hK' hS hM hL bS bM bL
  go_enter Tryz.func3,Tryz.ntmps3
  go_wp2_with fail
  go_ret
  exact⟨rfl,Mod.refl _ _⟩
 have g2:decide ((2147483647:Int)<(M.length:Int))=false:=decide_eq_false (by omega)
 by_cases hbL:lab.length≤2147483647
 rotate_left
 ·have g3:decide ((2147483647:Int)<(lab.length:Int))=true:=decide_eq_true (by omega)
  clear hbL hbM hbS hp hq he hh lK lK' hK hK' hS hM hL bS bM bL
  go_enter Tryz.func3,Tryz.ntmps3
  go_wp2_with fail
  go_ret
  exact⟨rfl,Mod.refl _ _⟩
 have g3:decide ((2147483647:Int)<(lab.length:Int))=false:=decide_eq_false (by omega)
 have C1:=hide (fun w'=>c_keyOf pb qb eb w' hp hq he)
 have CH:=hide (fun w'=>c_hashNo hb hh w')
 have HS:=hide (And.intro hS bS)
 have HM:=hide (And.intro hM bM)
 have HL:=hide (And.intro hL bL)
 have HK:=hide (And.intro (And.intro lK lK') (And.intro hK hK'))
 have hbb:=hide (And.intro hbS (And.intro hbM hbL))
 clear hbL hbM hbS hp hq he hh lK lK' hK hK' hS hM hL bS bM bL
 go_enter Tryz.func3,Tryz.ntmps3
 go_wp2_with fail
 refine(C1.out _).mono ?_
 rintro r w1 ⟨m1,e,vN,vD,vP,vQ,E,N,D,P,Q,ok,uN,uD,uP,uQ,BN,BD,BP,BQ,hb',ho,rfl,hV,hok,hN,hD,hP,hQ⟩
 obtain⟨a1,k1,c1,rfl⟩:=hV.n.lit
 obtain⟨a2,k2,c2,rfl⟩:=hV.d.lit
 obtain⟨a3,k3,c3,rfl⟩:=hV.p.lit
 obtain⟨a4,k4,c4,rfl⟩:=hV.q.lit
 obtain⟨a5,c5,rfl⟩:=SliceB.isSlice hN.1.1
 obtain⟨a6,c6,rfl⟩:=SliceB.isSlice hD.1.1
 obtain⟨a7,c7,rfl⟩:=SliceB.isSlice hP.1.1
 obtain⟨a8,c8,rfl⟩:=SliceB.isSlice hQ.1.1
 have HH:=hide (And.intro hb' (And.intro ho (And.intro hok (And.intro hN (And.intro hD (And.intro hP hQ))))))
 have HV:=hide hV
 clear hb' ho hok hN hD hP hQ hV
 obtain⟨W,hW⟩:∃W,W=(w1.alloc (.cells #[.slice a1 k1 c1,.slice a2 k2 c2,.slice a3 k3 c3,.slice a4 k4 c4,.int .i64 E] 27)).alloc (.cells #[.slice a5 BN.length c5,.int .i64 E,.slice a6 BD.length c6,.slice a7 BP.length c7,.slice a8 BQ.length c8] 29):=⟨_,rfl⟩
 have B9:Blk W w1.heap.size 27 [.slice a1 k1 c1,.slice a2 k2 c2,.slice a3 k3 c3,.slice a4 k4 c4,.int .i64 E]:=by rw[hW];exact(Blk.new w1 _ _).alloc _
 have B10:Blk W (w1.heap.size+1) 29 [.slice a5 BN.length c5,.int .i64 E,.slice a6 BD.length c6,.slice a7 BP.length c7,.slice a8 BQ.length c8]:=by rw[hW];have:=Blk.new (w1.alloc (.cells #[.slice a1 k1 c1,.slice a2 k2 c2,.slice a3 k3 c3,.slice a4 k4 c4,.int .i64 E] 27)) 29 [.slice a5 BN.length c5,.int .i64 E,.slice a6 BD.length c6,.slice a7 BP.length c7,.slice a8 BQ.length c8];rw[World.size_alloc]at this;exact this
 have m1W:Mod [] w1 W:=by rw[hW];exact((Mod.refl [] _).alloc _).alloc _
 have mW:=m1.then m1W
 have HB:=hide (And.intro B9 B10)
 have HW:=hide hW
 clear hW B9 B10
 go_upto_region 4 with fail
 rw[←HW.out]
 cases ok
 ·go_wp2_with fail
  go_ret
  exact⟨rfl,mW⟩
 by_cases hbM:M.length≤200
 rotate_left
 ·have g4:decide ((200:Int)<(M.length:Int))=true:=decide_eq_true (by omega)
  clear hbM
  go_wp2_with fail
  go_ret
  exact⟨rfl,mW⟩
 have g4:decide ((200:Int)<(M.length:Int))=false:=decide_eq_false (by omega)
 by_cases hbL:lab.length≤200
 rotate_left
 ·have g5:decide ((200:Int)<(lab.length:Int))=true:=decide_eq_true (by omega)
  clear hbL
  go_wp2_with fail
  go_ret
  exact⟨rfl,mW⟩
 have g5:decide ((200:Int)<(lab.length:Int))=false:=decide_eq_false (by omega)
 have HBL:=hide (And.intro hbM hbL)
 clear hbM hbL
 have hn4:=hN_all hb
 obtain⟨n,hn⟩:∃n,n=hN hb:=⟨_,rfl⟩
 rw[←hn]at CH hn4
 have n28:28≤n∧n≤64:=by omega
 have HN4:=hide hn4
 have e8:IntKind.i64.wrap ((8*(n:Int)).tdiv 8)=(n:Int):=by rw[IntKind.wrap_i64,Int.tdiv_eq_ediv_of_nonneg (by omega)];omega
 clear hn hn4
 go_wp2_with fail
 refine(CH.out _).mono ?_
 rintro r w2 ⟨rfl,m2⟩
 have mW2:=m1W.then m2
 have m02:=mW.then m2
 by_cases hl:S.length=n
 rotate_left
 ·go_wp2_with fail
  go_ret
  exact⟨rfl,m02⟩
 subst hl
 obtain⟨hb,ho,hok,hN,hD,hP,hQ⟩:=HH.out
 obtain⟨hE,O,law,he3,hNo,hNb,hN1⟩:=okeyT_of (Nat.mod_lt _ (by omega)) (Nat.mod_lt _ (by omega)) ho hb (hok trivial) hN hD hP hQ
 subst hE
 obtain⟨L,hL⟩:∃L,L=(blen N+7)/8:=⟨_,rfl⟩
 have CL:=hide (fun w' (m:Mod [] W w')=>n_Length (.slice a1 k1 c1) N w' (HV.out.n.mod (m1W.then m)) (NatV.lim4000 HV.out.bN))
 rw[←hL]at CL
 have CE:=hide (fun w' (m:Mod [] W w')=>z_EncodedOAEP S.length HN4.out (.slice aS S.length cS) (.slice aM M.length cM) (.slice aL lab.length cL) S M lab L w' (HS.out.1.mod (mW.then m) (by simp)) HS.out.2 rfl (HM.out.1.mod (mW.then m) (by simp)) HM.out.2 HBL.out.1 (HL.out.1.mod (mW.then m) (by simp)) HL.out.2 HBL.out.2 (by omega))
 have HO:=hide (O.up m1W)
 have HLaw:=hide (And.intro law (And.intro he3 (And.intro hNo (And.intro hNb (And.intro hN1 hL)))))
 clear hb ho hok hN hD hP hQ O law he3 hNo hNb hN1 hL
 have hS0:Hid (CellS W w1.heap.size (.slice a1 k1 c1) w2):=hide ⟨cell_up0 (by rw[HB.out.1.cell];rfl) m2,m2⟩
 go_upto_region 6 with fail
 go_cut [18,19]from 65 to 76 (fun a18 a19 wx=>∃v b,a18=v∧a19=.bool b∧CellS W w1.heap.size (.slice a1 k1 c1) wx∧(b=true→M.length+2*S.length+2≤L∧∃B,SliceB wx v B∧Bytes B∧B.length=L))
 case first=>
  go_region_held3 (fun w'=>w'.cell? ⟨w1.heap.size,0,none⟩=some (.slice a1 k1 c1)∧Mod [] W w')
   ((show CellS W w1.heap.size (.slice a1 k1 c1) _;(repeat (first|with_reducible exact hS0.out|with_reducible exact hS1.out|with_reducible exact hS2.out|with_reducible exact hS3.out|with_reducible refine CellS.up ?_ ((Mod.refl [] _).drew)));done))
   (first
     |(go_at_call 5;refine(CH.out _).mono ?_;rintro r x1 ⟨rfl,mm⟩;have hS1:=hide (CellS.up (show CellS W w1.heap.size (.slice a1 k1 c1) _ by(repeat (first|with_reducible exact hS0.out|with_reducible exact hS1.out|with_reducible exact hS2.out|with_reducible exact hS3.out|with_reducible refine CellS.up ?_ ((Mod.refl [] _).drew)))) mm);clear mm)
     |(go_at_call 7;refine(CL.out _ (And.right (show CellS W w1.heap.size (.slice a1 k1 c1) _ by(repeat (first|with_reducible exact hS0.out|with_reducible exact hS1.out|with_reducible exact hS2.out|with_reducible exact hS3.out|with_reducible refine CellS.up ?_ ((Mod.refl [] _).drew)))))).mono ?_;rintro r x2 ⟨rfl,mm⟩;have hS2:=hide (CellS.up (show CellS W w1.heap.size (.slice a1 k1 c1) _ by(repeat (first|with_reducible exact hS0.out|with_reducible exact hS1.out|with_reducible exact hS2.out|with_reducible exact hS3.out|with_reducible refine CellS.up ?_ ((Mod.refl [] _).drew)))) mm);clear mm)
     |(go_at_call 6;refine(CE.out _ (And.right (show CellS W w1.heap.size (.slice a1 k1 c1) _ by(repeat (first|with_reducible exact hS0.out|with_reducible exact hS1.out|with_reducible exact hS2.out|with_reducible exact hS3.out|with_reducible refine CellS.up ?_ ((Mod.refl [] _).drew)))))).mono ?_;rintro r x3 ⟨mm,v6,b6,rfl,h6⟩;have hS3:=hide (CellS.up (show CellS W w1.heap.size (.slice a1 k1 c1) _ by(repeat (first|with_reducible exact hS0.out|with_reducible exact hS1.out|with_reducible exact hS2.out|with_reducible exact hS3.out|with_reducible refine CellS.up ?_ ((Mod.refl [] _).drew)))) mm);have H6:=hide h6;clear mm h6))
  go_wp2_with fail
  go_meet
  exact⟨v6,b6,rfl,rfl,hS3.out,H6.out⟩
 case rest=>
  obtain⟨v6,b6,rfl,rfl,hc6,h6⟩:=hcut
  obtain⟨w6,rfl⟩:∃W:World,W=wc:=⟨_,rfl⟩
  clear hS0 CE m02 mW2
  have m06:=mW.then hc6.2
  cases b6
  ·clear h6
   go_wp2_with fail
   go_quiet (fail)
   go_wp2_with fail
   go_ret
   exact⟨rfl,m06.drewN _⟩
  obtain⟨hroom,B,sB,bB,lB⟩:=h6 (by trivial)
  obtain⟨aE,cE,rfl⟩:=SliceB.isSlice sB
  have CO:=hide (fun w' (m:Mod [] w6 w')=>n_OfBytes (.slice aE B.length cE) B w' (sB.mod m (by simp)) bB (by have:=HLaw.out.2.2.2.1;have:=HLaw.out.2.2.2.2.2;omega))
  have hBl:bval B<lim:=bval_lim bB (by have:=HLaw.out.2.2.2.1;have:=HLaw.out.2.2.2.2.2;omega)
  have CC:=hide (fun v w' (m:Mod [] W w') (h:NatV w' v (bval B))=>n_Cmp v (.slice a1 k1 c1) (bval B) N w' h (HV.out.n.mod (m1W.then m)) hBl)
  have HR:=hide hroom
  have HBL6:=hide lB
  obtain⟨cmp,hcmp⟩:∃c,c=cmpV (bval B) N:=⟨_,rfl⟩
  rw[←hcmp]at CC
  clear hroom sB bB lB hBl hcmp h6
  have hS0:=hide hc6
  clear hc6
  by_cases hlt:0≤cmp
  ·have g7:decide (0≤cmp)=true:=decide_eq_true hlt
   clear hlt
   go_upto_region 7 with fail
   go_region_held3 (fun w'=>w'.cell? ⟨w1.heap.size,0,none⟩=some (.slice a1 k1 c1)∧Mod [] W w')
    ((show CellS W w1.heap.size (.slice a1 k1 c1) _;(repeat (first|with_reducible exact hS0.out|with_reducible exact hS1.out|with_reducible exact hS2.out|with_reducible exact hS3.out|with_reducible refine CellS.up ?_ ((Mod.refl [] _).drew)));done))
    (first
      |(go_at_call 9;refine(CO.out _ (by repeat (first|exact Mod.refl _ _|exact(Mod.refl _ _).drew))).mono ?_;rintro r x1 ⟨v7,rfl,mm,h7⟩;have hS1:=hide (CellS.up (show CellS W w1.heap.size (.slice a1 k1 c1) _ by(repeat (first|with_reducible exact hS0.out|with_reducible exact hS1.out|with_reducible exact hS2.out|with_reducible exact hS3.out|with_reducible refine CellS.up ?_ ((Mod.refl [] _).drew)))) mm);clear mm)
      |(go_at_call 8;refine(CC.out _ _ (And.right (show CellS W w1.heap.size (.slice a1 k1 c1) _ by(repeat (first|with_reducible exact hS0.out|with_reducible exact hS1.out|with_reducible exact hS2.out|with_reducible exact hS3.out|with_reducible refine CellS.up ?_ ((Mod.refl [] _).drew))))) (by first|exact h7|exact h7.mod (Mod.refl [] _).drew)).mono ?_;rintro r x2 ⟨rfl,mm⟩;have hS2:=hide (CellS.up (show CellS W w1.heap.size (.slice a1 k1 c1) _ by(repeat (first|with_reducible exact hS0.out|with_reducible exact hS1.out|with_reducible exact hS2.out|with_reducible exact hS3.out|with_reducible refine CellS.up ?_ ((Mod.refl [] _).drew)))) mm);clear mm))
   go_wp2_with fail
   go_ret
   exact⟨rfl,mW.then hS2.out.2⟩
  ·have g7:decide (0≤cmp)=false:=decide_eq_false hlt
   clear hlt
   go_upto_region 7 with fail
   go_cut [86]from 77 to 86 (fun a86 wx=>a86=.bool false∧Mod [] W wx)
   case first=>
    go_region_held3 (fun w'=>w'.cell? ⟨w1.heap.size,0,none⟩=some (.slice a1 k1 c1)∧Mod [] W w')
     ((show CellS W w1.heap.size (.slice a1 k1 c1) _;(repeat (first|with_reducible exact hS0.out|with_reducible exact hS1.out|with_reducible exact hS2.out|with_reducible exact hS3.out|with_reducible refine CellS.up ?_ ((Mod.refl [] _).drew)));done))
     (first
       |(go_at_call 9;refine(CO.out _ (by repeat (first|exact Mod.refl _ _|exact(Mod.refl _ _).drew))).mono ?_;rintro r x1 ⟨v7,rfl,mm,h7⟩;have hS1:=hide (CellS.up (show CellS W w1.heap.size (.slice a1 k1 c1) _ by(repeat (first|with_reducible exact hS0.out|with_reducible exact hS1.out|with_reducible exact hS2.out|with_reducible exact hS3.out|with_reducible refine CellS.up ?_ ((Mod.refl [] _).drew)))) mm);clear mm)
       |(go_at_call 8;refine(CC.out _ _ (And.right (show CellS W w1.heap.size (.slice a1 k1 c1) _ by(repeat (first|with_reducible exact hS0.out|with_reducible exact hS1.out|with_reducible exact hS2.out|with_reducible exact hS3.out|with_reducible refine CellS.up ?_ ((Mod.refl [] _).drew))))) (by first|exact h7|exact h7.mod (Mod.refl [] _).drew)).mono ?_;rintro r x2 ⟨rfl,mm⟩;have hS2:=hide (CellS.up (show CellS W w1.heap.size (.slice a1 k1 c1) _ by(repeat (first|with_reducible exact hS0.out|with_reducible exact hS1.out|with_reducible exact hS2.out|with_reducible exact hS3.out|with_reducible refine CellS.up ?_ ((Mod.refl [] _).drew)))) mm);clear mm))
    go_wp2_with fail
    go_meet
    exact⟨rfl,hS2.out.2⟩
   case rest=>
    obtain⟨w7,rfl⟩:∃W:World,W=wc:=⟨_,rfl⟩
    obtain⟨rfl,hmW⟩:=hcut
    obtain⟨z,hz⟩:∃z,(blen N+7)/8=2*S.length+2+z+M.length:=⟨L-(2*S.length+2+M.length),by have h1:=HR.out;have h2:=HLaw.out.2.2.2.2.2;omega⟩
    obtain⟨ty,fR,fW,fS,fZ,kb,AT,HA⟩:=hashOf_all K K' S.length HN4.out HK.out.1.1 HK.out.1.2
    obtain⟨V,hV6⟩:∃V,V=em6 (hashF K K' S.length) S.length ((blen N+7)/8) (em4 S (hashF K K' S.length lab) M z):=⟨_,rfl⟩
    have hVlt:bval V<N:=by rw[hV6];exact em6_lt HA.hc.ok rfl HS.out.2 HM.out.2 hz (by have:=HLaw.out.2.2.2.2.1;omega)
    have CS:=hide (fun w' (m:Mod [] W w')=>c_SealOAEP HA w' e N z (.slice a5 BN.length c5) (.slice aS S.length cS) (.slice aM M.length cM) (.slice aL lab.length cL) BN S M lab (HK.out.2.1.mod (mW.then m) (by simp)) (HK.out.2.2.mod (mW.then m) (by simp))
     (HO.out.gN.mod m).1 HO.out.gN.2.1 HO.out.lN HO.out.eN HLaw.out.2.2.1 (by have:=HLaw.out.2.2.2.1;omega) HLaw.out.2.1 (by have:=HO.out.kl.eb;omega) HO.out.kl.eo
     (HS.out.1.mod (mW.then m) (by simp)) HS.out.2 rfl (HM.out.1.mod (mW.then m) (by simp)) HM.out.2 HBL.out.1 (HL.out.1.mod (mW.then m) (by simp)) HBL.out.2 hz (by rw[←hV6];exact hVlt) HLaw.out.2.2.2.2.1)
    have CP:=hide (fun w' (m:Mod [] W w') vC C (gC:GotB w' vC C) (lC:C.length=(blen N+7)/8) (eC:bval C=bval V^e%N)=>c_OpenOAEP HA w' (.slice a5 BN.length c5) (.slice a6 BD.length c6) (.slice a7 BP.length c7) (.slice a8 BQ.length c8) vC (.slice aL lab.length cL) BN BD BP BQ e P Q D N z S M lab C
     (HO.out.up m) (HK.out.2.1.mod (mW.then m) (by simp)) (HK.out.2.2.mod (mW.then m) (by simp)) gC lC (by rw[eC];exact Nat.mod_lt _ (by have:=HLaw.out.2.2.2.2.1;omega)) HS.out.2 rfl HM.out.2 (HL.out.1.mod (mW.then m) (by simp)) HBL.out.2 hz (by rw[eC,HLaw.out.1 _ hVlt,hV6]))
    rw[←hV6]at CS
    have hS0:Hid (KeyS W (w1.heap.size+1) (.slice a5 BN.length c5) (.int .i64 e) (.slice a6 BD.length c6) (.slice a7 BP.length c7) (.slice a8 BQ.length c8) w7):=hide ⟨cell_up0 (by rw[HB.out.2.cell];rfl) hmW,cell_up0 (by rw[HB.out.2.cell];rfl) hmW,cell_up0 (by rw[HB.out.2.cell];rfl) hmW,cell_up0 (by rw[HB.out.2.cell];rfl) hmW,cell_up0 (by rw[HB.out.2.cell];rfl) hmW,hmW⟩
    clear hmW hz hVlt hV6 CO CC CL
    go_upto_region 9 with fail
    go_region_held3 (fun w'=>w'.cell? ⟨w1.heap.size+1,0,none⟩=some (.slice a5 BN.length c5)∧w'.cell? ⟨w1.heap.size+1,1,none⟩=some (.int .i64 e)∧w'.cell? ⟨w1.heap.size+1,2,none⟩=some (.slice a6 BD.length c6)∧w'.cell? ⟨w1.heap.size+1,3,none⟩=some (.slice a7 BP.length c7)∧w'.cell? ⟨w1.heap.size+1,4,none⟩=some (.slice a8 BQ.length c8)∧Mod [] W w')
     ((show KeyS W (w1.heap.size+1) (.slice a5 BN.length c5) (.int .i64 e) (.slice a6 BD.length c6) (.slice a7 BP.length c7) (.slice a8 BQ.length c8) _;(repeat (first|with_reducible exact hS0.out|with_reducible exact hS1.out|with_reducible exact hS2.out|with_reducible exact hS3.out|with_reducible refine KeyS.up ?_ ((Mod.refl [] _).drew)));done))
     (first
       |(go_at_call 5;refine(CH.out _).mono ?_;rintro r x1 ⟨rfl,mm⟩;have hS1:=hide (KeyS.up (show KeyS W (w1.heap.size+1) (.slice a5 BN.length c5) (.int .i64 e) (.slice a6 BD.length c6) (.slice a7 BP.length c7) (.slice a8 BQ.length c8) _ by(repeat (first|with_reducible exact hS0.out|with_reducible exact hS1.out|with_reducible exact hS2.out|with_reducible exact hS3.out|with_reducible refine KeyS.up ?_ ((Mod.refl [] _).drew)))) mm);clear mm)
       |(go_at_call 10;refine(CS.out _ (KeyS.m (show KeyS W (w1.heap.size+1) (.slice a5 BN.length c5) (.int .i64 e) (.slice a6 BD.length c6) (.slice a7 BP.length c7) (.slice a8 BQ.length c8) _ by(repeat (first|with_reducible exact hS0.out|with_reducible exact hS1.out|with_reducible exact hS2.out|with_reducible exact hS3.out|with_reducible refine KeyS.up ?_ ((Mod.refl [] _).drew)))))).mono ?_;rintro r x3 ⟨v9,C9,rfl,mm,g9,l9,e9⟩;have hS3:=hide (KeyS.up (show KeyS W (w1.heap.size+1) (.slice a5 BN.length c5) (.int .i64 e) (.slice a6 BD.length c6) (.slice a7 BP.length c7) (.slice a8 BQ.length c8) _ by(repeat (first|with_reducible exact hS0.out|with_reducible exact hS1.out|with_reducible exact hS2.out|with_reducible exact hS3.out|with_reducible refine KeyS.up ?_ ((Mod.refl [] _).drew)))) mm);have H9:=hide (And.intro g9 (And.intro l9 e9));clear mm g9 l9 e9))
    clear CS
    obtain⟨w9,rfl⟩:∃W:World,W=x3:=⟨_,rfl⟩
    have m9:Mod [] W w9:=hS3.out.m
    have CP9:=hide (fun w' (m:Mod [] w9 w')=>CP.out w' (m9.then m) v9 C9 (H9.out.1.mod m) H9.out.2.1 H9.out.2.2)
    have hS0:Hid (KeyS w9 (w1.heap.size+1) (.slice a5 BN.length c5) (.int .i64 e) (.slice a6 BD.length c6) (.slice a7 BP.length c7) (.slice a8 BQ.length c8) w9):=hide ⟨hS3.out.1,hS3.out.2.1,hS3.out.2.2.1,hS3.out.2.2.2.1,hS3.out.2.2.2.2.1,Mod.refl [] _⟩
    clear hS1 hS3 CP
    go_upto_region 10 with fail
    go_region_held3 (fun w'=>w'.cell? ⟨w1.heap.size+1,0,none⟩=some (.slice a5 BN.length c5)∧w'.cell? ⟨w1.heap.size+1,1,none⟩=some (.int .i64 e)∧w'.cell? ⟨w1.heap.size+1,2,none⟩=some (.slice a6 BD.length c6)∧w'.cell? ⟨w1.heap.size+1,3,none⟩=some (.slice a7 BP.length c7)∧w'.cell? ⟨w1.heap.size+1,4,none⟩=some (.slice a8 BQ.length c8)∧Mod [] w9 w')
     ((show KeyS w9 (w1.heap.size+1) (.slice a5 BN.length c5) (.int .i64 e) (.slice a6 BD.length c6) (.slice a7 BP.length c7) (.slice a8 BQ.length c8) _;(repeat (first|with_reducible exact hS0.out|with_reducible exact hS1.out|with_reducible exact hS2.out|with_reducible exact hS3.out|with_reducible refine KeyS.up ?_ ((Mod.refl [] _).drew)));done))
     (first
       |(go_at_call 5;refine(CH.out _).mono ?_;rintro r x1 ⟨rfl,mm⟩;have hS1:=hide (KeyS.up (show KeyS w9 (w1.heap.size+1) (.slice a5 BN.length c5) (.int .i64 e) (.slice a6 BD.length c6) (.slice a7 BP.length c7) (.slice a8 BQ.length c8) _ by(repeat (first|with_reducible exact hS0.out|with_reducible exact hS1.out|with_reducible exact hS2.out|with_reducible exact hS3.out|with_reducible refine KeyS.up ?_ ((Mod.refl [] _).drew)))) mm);clear mm)
       |(go_at_call 11;refine(CP9.out _ (KeyS.m (show KeyS w9 (w1.heap.size+1) (.slice a5 BN.length c5) (.int .i64 e) (.slice a6 BD.length c6) (.slice a7 BP.length c7) (.slice a8 BQ.length c8) _ by(repeat (first|with_reducible exact hS0.out|with_reducible exact hS1.out|with_reducible exact hS2.out|with_reducible exact hS3.out|with_reducible refine KeyS.up ?_ ((Mod.refl [] _).drew)))))).mono ?_;rintro r x4 ⟨v10,rfl,mm,g10⟩;have hS3:=hide (KeyS.up (show KeyS w9 (w1.heap.size+1) (.slice a5 BN.length c5) (.int .i64 e) (.slice a6 BD.length c6) (.slice a7 BP.length c7) (.slice a8 BQ.length c8) _ by(repeat (first|with_reducible exact hS0.out|with_reducible exact hS1.out|with_reducible exact hS2.out|with_reducible exact hS3.out|with_reducible refine KeyS.up ?_ ((Mod.refl [] _).drew)))) mm);have H10:=hide g10;clear mm g10))
    clear CP9
    obtain⟨w10,rfl⟩:∃W:World,W=x4:=⟨_,rfl⟩
    have m10:Mod [] w w10:=mW.then (m9.then hS3.out.m)
    have CB:=hide (c_BytesEq v10 (.slice aM M.length cM) M w10 H10.out (HM.out.1.mod m10 (by simp)))
    go_wp2_with fail
    refine CB.out.mono ?_
    rintro r w11 ⟨rfl,rfl⟩
    go_wp2_with fail
    go_ret
    exact⟨rfl,m10⟩
end Go.Proofs.YtfgmnbmnpihjdaaGreatDoor
