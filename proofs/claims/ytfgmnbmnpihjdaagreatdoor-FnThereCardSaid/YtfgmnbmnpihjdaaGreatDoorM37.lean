/- Lemmas of mine for the walk and its plain laws: Seal UnA -/
import Derived.Test.YtfgmnbmnpihjdaaGreatDoorM36
import Derived.Test.YtfgmnbmnpihjdaaGreatDoorM32
import Derived.Test.YtfgmnbmnpihjdaaGreatDoorM35
set_option linter.all false
set_option exponentiation.threshold 7000000
set_option maxHeartbeats 4000000
namespace Go.Proofs.YtfgmnbmnpihjdaaGreatDoor
open Go.RowKit
theorem SliceB.mod2{w w':World}{v:Value}{B:List Nat}{S:List Nat}(h:SliceB w v B)(m:Mod S w w')(hS:∀x,x∈S→Apart v x):SliceB w' v B:=by
 rcases h with h|h|⟨b,o,c,rfl,hc,hb⟩
 ·exact .inl h
 ·exact .inr (.inl h)
 ·exact .inr (.inr ⟨b,o,c,rfl,hc,fun i hi=>cell_off (hb i hi) m (fun hx=>hS b hx _ _ _ _ rfl rfl)⟩)
set_option maxRecDepth 100000 in
theorem tail_copy{w:World}{b o D q n:Nat}{E M:List Nat}{a:Option Addr}{c:Nat}(hb:Blk w b 5 (E.map Go.Proofs.YtfgmnbmnpihjdaaGreatDoor.u8))(hD:o+D=E.length)(hq:q+n=D)(hM:M.length=n)(hm:SliceB w (.slice a n c) M) :
 ∃dst w',(∀u,(Instr.sliceAt 23 (sl b o D D) (some (i64 q)) none none).run Tryz.prog u=.ok dst u)∧(∀ty,(Builtin.copy_ #[23,23] ty #[dst,.slice a n c]).run Tryz.prog w=.ok (goInt n) w') ∧
  Mod [b] w w'∧Blk w' b 5 ((putS E M (o+q)).map Go.Proofs.YtfgmnbmnpihjdaaGreatDoor.u8):=by
 have hs:=fun u=>run_sizeOf u (Option.map_eq_some_iff.1 size_u8).choose_spec.1
 have hsl:∀u,(Instr.sliceAt 23 (sl b o D D) (some (i64 q)) none none).run Tryz.prog u=.ok (sliced (some ⟨b,o,none⟩) q D D 1) u:=fun u=>by
  rw[run_sliceAt_slice (h:=Tryz.underlying23),run_slice_l (ht:=Tryz.underlying23) (kl:=.i64) (l:=(q:Int)) (h0:=by omega) (h1:=by omega)]
  rw[show Tryz.prog.elem 23=5 by kernel_rfl,hs]
  simp only[Result.andThen,Int.toNat_natCast,show Tryz.prog.cellsOf 5=1 by kernel_rfl]
 by_cases h0:n=0
 ·subst h0
  obtain rfl:=List.eq_nil_of_length_eq_zero hM
  refine⟨_,w,hsl,fun ty=>?_,Mod.refl _ _,?_⟩
  ·unfold sliced
   rw[run_copy_none (P:=Tryz.prog) w 23 23 ty 5 _ a _ _ 0 c Tryz.underlying23 size_u8 (by simp)]
   rfl
  ·unfold putS
   rw[List.append_nil,List.length_nil,Nat.add_zero,List.take_append_drop]
   exact hb
 ·obtain⟨sb,so,rfl,hc,hcb⟩:∃sb so,a=some ⟨sb,so,none⟩∧M.length≤c∧CellsB w sb so M:=by
   rcases hm with⟨e,hB⟩|⟨x,c',e,hB⟩|⟨sb,so,c',e,hc,hcb⟩
   ·rw[hB]at hM;simp at hM;omega
   ·rw[hB]at hM;simp at hM;omega
   ·simp only[Value.slice.injEq]at e
    obtain⟨rfl,_,rfl⟩:=e
    exact⟨sb,so,rfl,hc,hcb⟩
  refine⟨_,w.setRow b ((putS E M (o+q)).map Go.Proofs.YtfgmnbmnpihjdaaGreatDoor.u8).toArray,hsl,fun ty=>?_,(Mod.refl [b] w).setRow _ _ (by simp),?_⟩
  ·have h:=run_copy_cells (P:=Tryz.prog) (t':=23) (ty:=ty) Tryz.underlying23 size_u8 hb (o+q) (D-q) (D-q) ⟨sb,so,none⟩ n c (us:=M.map Go.Proofs.YtfgmnbmnpihjdaaGreatDoor.u8) (by rw[List.length_map,hM];exact(Nat.min_eq_left (by omega)).symm)
    (fun j v hj=>by
      have hjl:j<M.length:=by simpa using(List.getElem?_eq_some_iff.1 hj).1
      rw[map_get hjl]at hj
      rw[add_addr,hcb j hjl]
      exact hj) (by rw[List.length_map,List.length_map];omega) (oneCell_map Go.Proofs.YtfgmnbmnpihjdaaGreatDoor.u8 (fun _=>rfl) _)
   rw[List.length_map,hM,putS_row]at h
   have e:sliced (some ⟨b,o,none⟩) q D D 1=sl b (o+q) (D-q) (D-q):=by
    unfold sliced
    rw[if_neg (by omega),Nat.mul_one]
    simp[add_addr]
   rw[e]
   exact h
  ·rw[←putS_row]
   exact hb.splice (M.map Go.Proofs.YtfgmnbmnpihjdaaGreatDoor.u8) (o+q)
set_option maxRecDepth 100000 in
theorem c_EncOAEP{ty fR fW fS fZ kb n:Nat}{AT:World→Nat→List Nat→Prop}{H:List Nat→List Nat}(MK:MethK ty fR fW fS fZ)(HC:HashC fR fW fS fZ kb AT H n)
 (w0 w:World) (d g r sb so sc k m en Nv z:Nat) (S M lab:List Nat) (vm vl:Value) (h0:Mod [] w0 w) (hk:PHead w0 k m (en:Int)) (hm:MdAt w0 m Nv) (ho:Nv%2=1) (he1:3≤en) (he2:en<2147483648) (heo:en%2=1) (bN:blen Nv≤4000)
 (hD:AT w d []) (hG:AT w g []) (hdg:d≠g) (gd:w0.heap.size≤d) (gg:w0.heap.size≤g) (gr:w0.heap.size≤r) (hkb:kb<w0.heap.size)
 (hr:Blk w r 113 [sl sb so n sc,.int .i64 0,.int .i64 (-1)]) (hdr:d≠r) (hgr:g≠r) (hS:S.length=n) (hcs:CellsB w sb so S) (bS:Bytes S) (hsc:n≤sc) (hsd:sb≠d) (hsr:sb≠r)
 (hM:SliceB w vm M) (bM:Bytes M) (hMd:Apart vm d) (hl:SliceB w vl lab) (hld:Apart vl d) (hz:(blen Nv+7)/8=2*n+2+z+M.length) (lM:M.length≤20000) (ll:lab.length≤20000)
 (hlt:bval (em6 H n ((blen Nv+7)/8) (em4 S (H lab) M z))<Nv) :
 Calls Tryz.prog 24 #[.iface ty (ptr d),.iface ty (ptr g),.iface 65 (ptr r),ptr k,vm,vl] w fun e w'=>∃b C,e=.returned (.tuple #[sl b 0 C.length C.length,.nilIface])∧Mod [] w0 w'∧Blk w' b 5 (C.map Go.Proofs.YtfgmnbmnpihjdaaGreatDoor.u8)∧C.length=(blen Nv+7)/8∧Bytes C ∧
  bval C=bval (em6 H n ((blen Nv+7)/8) (em4 S (H lab) M z))^en%Nv:=by
 obtain⟨K,hK⟩:∃K,K=(blen Nv+7)/8:=⟨_,rfl⟩
 rw[←hK]at hz hlt ⊢
 have hn28:=HC.lo
 have hn64:=HC.hi
 have hK2:K≤1000:=by omega
 obtain⟨am,cm,rfl⟩:=SliceB.isSlice hM
 obtain⟨al,cl,rfl⟩:=SliceB.isSlice hl
 obtain⟨ml,hml⟩:∃ml,ml=M.length:=⟨_,rfl⟩
 have CCk:=hide (k_check w k m en Nv (Nat.lt_of_lt_of_le hk.lt h0.size) (cell_up0 (PHead.c0 hk) h0) (cell_up0 (PHead.c1 hk) h0) (hm.mod h0) ho (by omega) heo (by omega))
 have CSz:=hide (fun w' (mm:Mod [] w0 w')=>k_PSize w' k m Nv (cell_up0 (PHead.c0 hk) mm) (hm.mod mm) bN)
 rw[←hK]at CSz
 have hnR:=MK.nR d
 have hnW:=MK.nW d
 have hnS:=MK.nS d
 have hnZ:=MK.nZ d
 have hmR:=MK.mR d
 have hmW:=MK.mW d
 have hmS:=MK.mS d
 have hmZ:=MK.mZ d
 have heR:=MK.eR
 have heW:=MK.eW
 have heS:=MK.eS
 have heZ:=MK.eZ
 have dlt:=HC.lt hD
 have glt:=HC.lt hG
 have rlt:=hr.lt
 have hs0:=h0.size
 rw[←hml]at hz lM ⊢
 obtain⟨n2,hn2⟩:∃n2,n2=2*n:=⟨_,rfl⟩
 obtain⟨a1,ha1⟩:∃a1,a1=K-n2:=⟨_,rfl⟩
 obtain⟨a2,ha2⟩:∃a2,a2=z+ml:=⟨_,rfl⟩
 obtain⟨n1,hn1⟩:∃n1,n1=1+n:=⟨_,rfl⟩
 obtain⟨D,hDD⟩:∃D,D=K-n1:=⟨_,rfl⟩
 obtain⟨q1,hq1⟩:∃q1,q1=D-ml:=⟨_,rfl⟩
 obtain⟨q2,hq2⟩:∃q2,q2=q1-1:=⟨_,rfl⟩
 have HX:=hide (And.intro hn2 (And.intro ha1 (And.intro ha2 (And.intro hn1 (And.intro hDD (And.intro hq1 (And.intro hq2 (And.intro hz (And.intro hn28 (And.intro hn64 (And.intro hK2 lM)))))))))))
 have HB:=hide (And.intro hdg (And.intro gd (And.intro gg (And.intro gr (And.intro hkb (And.intro hdr (And.intro hgr (And.intro hsd (And.intro hsr (And.intro dlt.1 (And.intro glt.1 (And.intro rlt hs0))))))))))))
 have e1:(2:Int)*(n:Int)=(n2:Int):=by omega
 have e2:(K:Int)-(n2:Int)=(a1:Int):=by omega
 have e3:(a1:Int)-2=(a2:Int):=by omega
 have w1:IntKind.i64.wrap (n2:Int)=(n2:Int):=IntWalk.i64_in _ (by omega)
 have w2:IntKind.i64.wrap (a1:Int)=(a1:Int):=IntWalk.i64_in _ (by omega)
 have w3:IntKind.i64.wrap (a2:Int)=(a2:Int):=IntWalk.i64_in _ (by omega)
 have g1:¬(a2:Int)<(ml:Int):=by omega
 have HD:=hide hD
 have HG:=hide hG
 have HR:=hide hr
 rw[←hml]at hM
 have HM:=hide hM
 have HL:=hide hl
 have HMD:=hide hm
 have HPK:=hide hk
 have HN:=hide hml
 have HLT:=hide hlt
 have HKK:=hide hK
 have HCS:=hide hcs
 have H0:=hide h0
 have HSS:=hide (And.intro hS (And.intro bS (And.intro hsc (And.intro bM (And.intro ho (And.intro he1 (And.intro he2 bN)))))))
 rw[←hml]at hMd
 have HMV:=hide (And.intro hMd hld)
 have HLL:=hide ll
 clear hD hG hr hM hl hm hk hz hml hlt hK hcs hn2 ha1 ha2 hn1 hDD hq1 hq2 hn28 hn64 hK2 lM hdg gd gg gr hkb hdr hgr hsd hsr dlt glt rlt hs0 h0 hS bS hsc bM ho he1 he2 heo bN hMd hld ll
 go_enter Tryz.func24,Tryz.ntmps24
 go_wp2_with fail
 refine CCk.out.mono ?_
 rintro e wa ⟨f,rfl,ma⟩
 have h0a:=H0.out.then1 ma
 clear CCk
 go_wp2_with fail
 refine(CSz.out _ h0a).mono ?_
 rintro e w' ⟨rfl,rfl⟩
 go_wp2_with fail
 have Da:=hide (HC.up HD.out ma (by simp) (by simp))
 refine(HC.size _ d [] Da.out).mono ?_
 rintro e w' ⟨rfl,rfl⟩
 go_wp2_with fail
 clear e1 e2 e3 w1 w2 w3 g1
 refine(HC.reset _ d [] Da.out).mono ?_
 rintro e wb ⟨rfl,mb,Db⟩
 have La:=(HL.out.mod2 ma (by simp)).mod2 mb (by simpa using HMV.out.2)
 have CW:=hide (HC.write wb d [] (.slice al lab.length cl) lab Db La HMV.out.2 HLL.out (by simp) (.inr rfl))
 rw[List.nil_append]at CW
 have mab:Mod [d] w wb:=ma.then1 mb
 clear La Db Da h0a
 go_wp2_with fail
 refine CW.out.mono ?_
 rintro e wc ⟨rfl,mc,Dc⟩
 have mac:Mod [d] w wc:=mab.trans mc (fun _ h _=>h) (fun _ h _=>h)
 have CS:=hide (HC.sum wc d lab wc.heap.size (.slice none 0 0) Dc (Own.nil _ _ _ _) (Nat.le_refl _) (by have:=HLL.out;omega))
 have HDC:=hide Dc
 clear CW mc mb mab ma Dc
 go_wp2_with fail
 refine CS.out.mono ?_
 rintro e wd ⟨vL,rfl,oL,md⟩
 have md':Mod [] wc wd:=md
 obtain⟨L,hL⟩:∃L,L=H lab:=⟨_,rfl⟩
 rw[←hL]at oL
 have lL:L.length=n:=by rw[hL];exact HC.ok.len _
 have bL:Bytes L:=by rw[hL];exact HC.ok.bytes _
 obtain⟨gl,capl,restl,rfl,hgl,hBl,hcapl,hmaxl⟩:∃g cap rest,vL=sl g 0 n cap∧wc.heap.size≤g∧Blk wd g 5 (L.map Go.Proofs.YtfgmnbmnpihjdaaGreatDoor.u8++rest)∧n+rest.length=cap∧cap≤maxLen:=by
  rcases oL.blk with⟨_,h⟩|⟨g,cap,rest,h1,h2,h3,h4,h5⟩
  ·rw[h]at lL;have:=HX.out;simp at lL;omega
  ·rw[lL]at h1 h4;exact⟨g,cap,rest,h1,h2,h3,h4,h5⟩
 have mad:Mod [d] w wd:=mac.trans md' (fun _ h _=>h) (by simp)
 obtain⟨b,we,hmk,me,hbw,hE0⟩:=made_u8' K (by have:=HX.out;omega) wd
 have mae:Mod [d] w we:=mad.trans me (fun _ h _=>h) (by simp)
 have De:=hide (HC.up HDC.out (md'.then1 me) (by simp) (by simp))
 have hBle:=hide (hBl.mod me (by simp))
 have HLL2:=hide (And.intro hL (And.intro lL bL))
 have hbsz:=mad.size
 have hgls:=mac.size
 have HBW:=hide (And.intro hbw (And.intro hgl (And.intro hbsz hgls)))
 have HGLB:=hide hBl.lt
 clear oL hBl md md' me mac mad hL lL bL CS hbw hgl hbsz hgls HDC
 have e4:(1:Int)+(n:Int)=(n1:Int):=by have:=HX.out;omega
 have w4:IntKind.i64.wrap (n1:Int)=(n1:Int):=IntWalk.i64_in _ (by have:=HX.out;omega)
 have g2:(1:Int)≤(n1:Int):=by have:=HX.out;omega
 have g3:(n1:Int)≤(K:Int):=by have:=HX.out;omega
 have g4:(n:Int)≤(D:Int):=by have:=HX.out;omega
 have f1:K-n1=D:=by have:=HX.out;omega
 have f2:n1-1=n:=by have:=HX.out;omega
 have f3:¬K=n1:=by have:=HX.out;omega
 have f4:¬K=1:=by have:=HX.out;omega
 have f5:¬D=0:=by have:=HX.out;omega
 go_wp2_with fail
 refine(HC.size _ d _ De.out).mono ?_
 rintro e w' ⟨rfl,rfl⟩
 go_wp2_with fail
 refine(HC.size _ d _ De.out).mono ?_
 rintro e w' ⟨rfl,rfl⟩
 go_wp2_with fail
 refine(HC.size _ d _ De.out).mono ?_
 rintro e wf ⟨rfl,rfl⟩
 have UU:∀j,Go.Proofs.YtfgmnbmnpihjdaaGreatDoor.u8 j=Go.Proofs.YtfgmnbmnpihjdaaGreatDoor.u8 j:=fun _=>rfl
 have l0:(List.replicate K 0).length=K:=List.length_replicate ..
 have lL:=HLL2.out.2.1
 have hx:=HX.out
 have hgb:gl≠b:=by have:=HGLB.out;have:=HBW.out;omega
 obtain⟨w7,hw7⟩:∃w7,w7=wf.setRow b ((putS (List.replicate K 0) L n1).map Go.Proofs.YtfgmnbmnpihjdaaGreatDoor.u8).toArray:=⟨_,rfl⟩
 have hcp:∀ty,(Builtin.copy_ #[23,23] ty #[sl b n1 n D,sl gl 0 n capl]).run Tryz.prog wf=.ok (goInt n) w7:=fun ty=>by
  have h:=run_copy_cells (P:=Tryz.prog) (t':=23) (ty:=ty) Tryz.underlying23 size_u8 hE0 n1 n D ⟨gl,0,none⟩ n capl (us:=L.map Go.Proofs.YtfgmnbmnpihjdaaGreatDoor.u8) (by rw[List.length_map,lL];exact(Nat.min_self _).symm)
   (fun j v hj=>by
     have hjl:j<L.length:=by simpa using(List.getElem?_eq_some_iff.1 hj).1
     rw[add_addr,Nat.zero_add,hBle.out.cell,List.getElem?_append_left (by simpa using hjl)]
     exact hj) (by rw[List.length_map,List.length_map,l0,lL];omega) (oneCell_map Go.Proofs.YtfgmnbmnpihjdaaGreatDoor.u8 (fun _=>rfl) _)
  rw[List.length_map,lL,putS_row,←hw7]at h
  exact h
 obtain⟨E1,hE1⟩:∃E1,E1=putS (List.replicate K 0) L n1:=⟨_,rfl⟩
 have lE1:E1.length=K:=by rw[hE1,putS_length (by rw[l0,lL];omega),l0]
 have hB7:Blk w7 b 5 (E1.map Go.Proofs.YtfgmnbmnpihjdaaGreatDoor.u8):=by rw[hw7,hE1,←putS_row];exact hE0.splice _ _
 have m7:Mod [b] wf w7:=by rw[hw7];exact(Mod.refl [b] wf).setRow _ _ (by simp)
 have hc14:=hB7.at (n1+q2) (by rw[lE1];omega)
 have hf14:=hB7.frozen (n1+q2)
 obtain⟨w8,hw8⟩:∃w8,w8=w7.setCell ⟨b,n1+q2,none⟩ (.int .u8 1):=⟨_,rfl⟩
 have hB8:Blk w8 b 5 ((E1.set (n1+q2) 1).map Go.Proofs.YtfgmnbmnpihjdaaGreatDoor.u8):=by rw[hw8];exact hB7.set (n1+q2) 1
 have m8:Mod [b] wf w8:=by rw[hw8];exact m7.setCell _ _ (by simp)
 have hbig:w.heap.size≤b:=by have:=HBW.out;omega
 have mw8:Mod [d] w w8:=mae.trans m8 (fun _ h _=>h) (fun x h hl=>by simp at h;omega)
 have hM8:SliceB w8 (.slice am ml cm) M:=by
  have h:=HM.out.mod2 mw8 (by have h2:=HMV.out.1;simpa using h2)
  exact h
 obtain⟨dst,w9,hsl,hcp2,m9,hB9⟩:=tail_copy (q:=q1) (n:=ml) hB8 (o:=n1) (D:=D) (by rw[List.length_set,lE1];omega) (by omega) HN.out.symm hM8
 obtain⟨E3,hE3⟩:∃E3,E3=putS (E1.set (n1+q2) 1) M (n1+q1):=⟨_,rfl⟩
 rw[←hE3]at hB9
 have lE3:E3.length=K:=by rw[hE3,putS_length (by rw[List.length_set,lE1,←HN.out];omega),List.length_set,lE1]
 have mw9:Mod [d] w w9:=mw8.trans m9 (fun _ h _=>h) (fun x h hl=>by simp at h;omega)
 have hr9:=HR.out.mod mw9 (by have:=HB.out;simp;omega)
 have hbr:b≠r:=by have:=HB.out;omega
 have CRF:=hide (c_readFull r sb so sc b 1 (K-1) n S E3 w9 HSS.out.1 hr9 (fun i hi=>cell_off (HCS.out i (by rw[HSS.out.1];exact hi)) mw9 (by have:=HB.out;simp;omega)) hB9 (by omega) (by omega) (by omega) hbr (by have:=HB.out;omega) HSS.out.2.2.1 (by omega))
 have H14:=hide (And.intro hc14 (And.intro hf14 hw8))
 have H15:=hide (And.intro hsl hcp2)
 have HE:=hide (And.intro hE1 (And.intro lE1 (And.intro hE3 (And.intro lE3 (And.intro hbig hbr)))))
 have HB9:=hide hB9
 have HMW:=hide mw9
 clear De hBle hE0 l0 lL hx hgb hw7 hE1 hB7 m7 hB8 m8 mw8 hM8 m9 hB9 hE3 mw9 hr9 hbr hbig lE1 lE3 UU hc14 hf14 hw8 hsl hcp2
 go_upto_region 14 with fail
 have hc14:=H14.out.1
 have hf14:=H14.out.2.1
 have e5:(D:Int)-(ml:Int)=(q1:Int):=by have:=HX.out;omega
 have e6:(q1:Int)-1=(q2:Int):=by have:=HX.out;omega
 have w5:IntKind.i64.wrap (q1:Int)=(q1:Int):=IntWalk.i64_in _ (by have:=HX.out;omega)
 have w6:IntKind.i64.wrap (q2:Int)=(q2:Int):=IntWalk.i64_in _ (by have:=HX.out;omega)
 have g5:(q2:Int)<(D:Int):=by have:=HX.out;omega
 clear hcp
 go_upto_region 15 with fail
 rw[←H14.out.2.2]
 clear hc14 hf14 e6 w6 g5
 have hsl:=H15.out.1
 have hcp2:=H15.out.2
 go_wp2_with fail
 refine CRF.out.mono ?_
 rintro e w10 ⟨rfl,m10,hB10⟩
 clear hsl hcp2 e5 w5 CRF
 have hE:=HE.out
 have mw10:Mod [d,r] w w10:=(HMW.out.trans m10 (fun _ h _=>by simp at h;simp[h]) (fun x h hl=>by simp at h;rcases h with rfl|rfl;simp;omega))
 obtain⟨E4,hE4⟩:∃E4,E4=putS E3 S 1:=⟨_,rfl⟩
 have e4eq:E4=em4 S (H lab) M z:=by
  have hx:=HX.out
  rw[hE4,hE.2.2.1,hE.1,←HLL2.out.1,←em4_eq (n:=n) (k:=K) HSS.out.1 HLL2.out.2.1 (by rw[←HN.out];omega)]
  rw[show n1+q2=K-M.length-1 by rw[←HN.out];omega,show n1+q1=K-M.length by rw[←HN.out];omega,show n1=1+n by omega]
 rw[←hE4]at hB10
 have lE4:E4.length=K:=by rw[hE4,putS_length (by rw[HSS.out.1,hE.2.2.2.1];have:=HX.out;omega),hE.2.2.2.1]
 have bE4:Bytes E4:=by rw[e4eq];exact em4_bytes HSS.out.2.1 (HC.ok.bytes _) HSS.out.2.2.2.1
 have G10:=HC.up HG.out mw10 (by have:=HB.out;simp;omega) (by have:=HB.out;have:=HC.lt HG.out;simp;omega)
 have CM1:=hide (c_mgf MK HC g b n1 D D 1 n (K-1) E4 [] w10 G10 hB10 (by have:=HB.out;have:=HBW.out;omega) (by have:=HB.out;have:=HBW.out;omega) (by have:=HX.out;omega) (by have:=HX.out;omega) (by have:=HX.out;omega) bE4 (by have:=HX.out;omega) (by have:=HX.out;omega) (Nat.le_refl _) (by have:=HX.out;omega))
 have HE4:=hide (And.intro e4eq (And.intro lE4 bE4))
 have HW10:=hide mw10
 clear hE hE4 e4eq lE4 bE4 G10 hB10 m10 mw10
 go_wp2_with fail
 refine CM1.out.mono ?_
 rintro e w11 ⟨rfl,m11,⟨M11,G11⟩,hB11⟩
 have hE5:xorAt H n (cut E4 1 n) n1 D E4=em5 H n K E4:=by unfold em5;rw[show n1=1+n by have:=HX.out;omega,show D=K-1-n by have:=HX.out;omega]
 rw[hE5]at hB11
 have CM2:=hide (c_mgf MK HC g b 1 n (K-1) n1 D D (em5 H n K E4) M11 w11 G11 hB11 (by have:=HB.out;have:=HBW.out;omega) (by have:=HB.out;have:=HBW.out;omega) (by rw[em5_length,HE4.out.2.1];have:=HX.out;omega) (by rw[em5_length,HE4.out.2.1];have:=HX.out;omega) (by have:=HX.out;omega) (xorAt_bytes HC.ok HE4.out.2.2) (by have:=HX.out;omega) (by have:=HX.out;omega) (by have:=HX.out;omega) (Nat.le_refl _))
 have mw11:Mod [d,r,g] w w11:=HW10.out.trans m11 (fun _ h _=>by simp at h;rcases h with h|h<;>simp[h]) (fun x h hl=>by simp at h;rcases h with rfl|rfl;simp;have:=HE.out;omega)
 have HW11:=hide mw11
 clear CM1 m11 G11 hB11 hE5 mw11
 go_wp2_with fail
 refine CM2.out.mono ?_
 rintro e w12 ⟨rfl,m12,-,hB12⟩
 have hE6:xorAt H n (cut (em5 H n K E4) n1 D) 1 n (em5 H n K E4)=em6 H n K E4:=by unfold em6;rw[show n1=1+n by have:=HX.out;omega,show D=K-1-n by have:=HX.out;omega]
 rw[hE6]at hB12
 have mw12:Mod [d,r,g] w w12:=HW11.out.trans m12 (fun _ h _=>h) (fun x h hl=>by simp at h;rcases h with rfl|rfl;simp;have:=HE.out;omega)
 have m012:Mod [] w0 w12:=H0.out.trans mw12 (by simp) (fun x h hl=>by have:=HB.out;simp at h;omega)
 have l6:(em6 H n K E4).length=K:=by rw[em6_length,HE4.out.2.1]
 have CE:=hide (k_encrypt w12 k m en Nv (Blk.mod HPK.out m012 (by simp)) (HMD.out.mod m012) HSS.out.2.2.2.2.1 (by have:=HSS.out;omega) HSS.out.2.2.2.2.2.2.1 _ (em6 H n K E4) (GotB.row hB12 (em6_bytes HC.ok HE4.out.2.2)) (by rw[l6,HKK.out]) (by rw[HE4.out.1];exact HLT.out) HSS.out.2.2.2.2.2.2.2)
 rw[l6]at CE
 have HM12:=hide m012
 clear CM2 m12 hB12 hE6 mw12 m012 l6
 go_wp2_with fail
 refine CE.out.mono ?_
 rintro e w13 ⟨bc,C,rfl,m13,hC,lC,bC,eC⟩
 have m013:=HM12.out.then1 m13
 have HF:=hide (And.intro lC (And.intro bC eC))
 clear lC bC eC CE m13
 go_wp2_with fail
 go_ret2
 exact⟨bc,C,rfl,m013,hC,by rw[HF.out.1,HKK.out],HF.out.2.1,by rw[HF.out.2.2,HE4.out.1]⟩
set_option maxRecDepth 100000 in
theorem c_ctByteEq(x y:Nat)(w:World):Calls Tryz.prog 62 #[.int .u8 (x:Int),.int .u8 (y:Int)] w fun e w'=>e=.returned (.int .i64 (if x=y then 1 else 0))∧w=w':=by
 by_cases h:x=y
 ·rw[if_pos h]
  subst h
  go_enter Tryz.func62,Tryz.ntmps62
  go_wp2_with fail
  go_ret
  exact⟨rfl,rfl⟩
 ·rw[if_neg h]
  have g:((x:Int) == (y:Int))=false:=by rw[beq_eq_false_iff_ne];omega
  go_enter Tryz.func62,Tryz.ntmps62
  go_wp2_with fail
  go_ret
  exact⟨rfl,rfl⟩
set_option maxRecDepth 100000 in
theorem c_ctSelect0(x y:Int)(w:World):Calls Tryz.prog 64 #[.int .i64 0,.int .i64 x,.int .i64 y] w fun e w'=>e=.returned (.int .i64 y)∧w=w':=by
 go_enter Tryz.func64,Tryz.ntmps64
 go_wp2_with fail
 go_ret
 exact⟨rfl,rfl⟩
set_option maxRecDepth 100000 in
theorem c_ctSelect1(x y:Int)(w:World):Calls Tryz.prog 64 #[.int .i64 1,.int .i64 x,.int .i64 y] w fun e w'=>e=.returned (.int .i64 x)∧w=w':=by
 go_enter Tryz.func64,Tryz.ntmps64
 go_wp2_with fail
 go_ret
 exact⟨rfl,rfl⟩
set_option maxRecDepth 100000 in
theorem c_ctComp(a oa ca b ob cb n:Nat)(L:List Nat)(w:World)(bL:Bytes L)(hn:n≤100000)(ha:∀i,i<n→w.cell? ⟨a,oa+i,none⟩=some (Go.Proofs.YtfgmnbmnpihjdaaGreatDoor.u8 (nth L i)))(hb:∀i,i<n→w.cell? ⟨b,ob+i,none⟩=some (Go.Proofs.YtfgmnbmnpihjdaaGreatDoor.u8 (nth L i))) :
 Calls Tryz.prog 63 #[sl a oa n ca,sl b ob n cb] w fun e w'=>e=.returned (.int .i64 1)∧Mod [] w w':=by
 have HA:=hide ha
 have HB:=hide hb
 clear ha hb
 go_enter Tryz.func63,Tryz.ntmps63
 go_wp2_with fail
 go_loopw [5,14] (fun v i wr=>∃j:Nat,v=.int .u8 0∧i=i64 j∧j≤n∧Mod [] w wr) (fun _ i _=>n-(intOf i).toNat)
 case atStart=>exact⟨0,rfl,rfl,by omega,Mod.refl _ _⟩
 case round=>
  obtain⟨j,rfl,rfl,hj,hm⟩:=hrel
  by_cases h:j<n
  ·have g:(j:Int)<(n:Int):=by omega
   have c1:=cell_up0 (HA.out j h) hm
   have c2:=cell_up0 (HB.out j h) hm
   obtain⟨x,hx⟩:∃x,x=nth L j:=⟨_,rfl⟩
   rw[←hx]at c1 c2
   have hx8:x<256:=by rw[hx];exact bL j
   have hxor:=xor_u8 hx8 hx8
   rw[Nat.xor_self]at hxor
   have hxor':bits .xor .u8 (x:Int) (x:Int)=0:=hxor
   have hor:bits .or .u8 0 0=0:=by decide
   have ej:IntKind.i64.wrap ((j:Int)+1)=((j+1:Nat):Int):=by rw[IntKind.wrap_i64];omega
   clear hx hx8 hxor
   go_wp2_with fail
   go_quiet (fail)
   have hm2:=hm.drewN nq
   go_wp2_with fail
   go_roundw
   case rel=>exact⟨j+1,rfl,by first|rfl|(simp[i64];done),by omega,hm2⟩
   case measure=>simp[intOf];omega
  ·obtain rfl:j=n:=by omega
   have g:¬(j:Int)<(j:Int):=by omega
   go_wp2_with fail
   go_ret
   exact⟨rfl,hm⟩
end Go.Proofs.YtfgmnbmnpihjdaaGreatDoor
