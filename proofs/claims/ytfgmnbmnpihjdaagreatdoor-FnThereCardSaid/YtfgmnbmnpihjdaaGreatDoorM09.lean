/- Lemmas of mine for the walk and its plain laws: Sha512W Sha512S Sha512P -/
import Derived.Test.YtfgmnbmnpihjdaaGreatDoorM08
import Derived.Test.YtfgmnbmnpihjdaaGreatDoorM02
import Derived.Deep.DeepCutAuto
set_option linter.all false
set_option exponentiation.threshold 7000000
set_option maxHeartbeats 4000000
namespace Go.Proofs.YtfgmnbmnpihjdaaGreatDoor
open Go.RowKit
set_option maxRecDepth 100000 in
theorem c_blkw512(d:Nat)(hs:List Int)(rest:List Value)(K:List Int)(pb po c:Nat)(P:List Nat)(w:World)
 (hd:Blk w d 145 (hs.map v64++rest)) (lh:hs.length=8) (hK:Blk w 6 241 (K.map v64)) (lK:K.length=80)
 (hp:∀i,i<P.length→w.cell? ⟨pb,po+i,none⟩=some (u8 (nth P i))) (lP:P.length≤100000) (hc:P.length≤c) :
 Calls Tryz.prog 192 #[ptr d,sl pb po P.length c] w fun e w'=>e=.returned (.tuple #[])∧Mod [d] w w'∧Blk w' d 145 ((runH (blk512 K) 128 hs P 0 (P.length/128)).map v64++rest):=by
 have C:=hide (c_block512 d hs rest K pb po c P w hd lh hK lK hp lP hc)
 clear hd lh hK lK hp lP hc
 go_enter Tryz.func192,Tryz.ntmps192
 go_wp2_with fail
 refine C.out.mono ?_
 rintro e w' ⟨rfl,h⟩
 go_wp2_with fail
 go_end0
 exact⟨rfl,h⟩
theorem st512_length{K ini:List Int}(li:ini.length=8)(M:List Nat):(stH (blk512 K) 128 ini M).length=8:=runH_length (fun h L=>blk512_length K h L) li _ _ _
set_option maxRecDepth 100000 in
theorem c_Write512(d:Nat)(ini:List Int)(fl:Value)(M P:List Nat)(K:List Int)(pb po c:Nat)(w:World)
 (hD:DgAt (blk512 K) 128 v64 145 w d ini fl M) (li:ini.length=8) (hK:Blk w 6 241 (K.map v64)) (lK:K.length=80)
 (hp:∀i,i<P.length→w.cell? ⟨pb,po+i,none⟩=some (u8 (nth P i))) (hpd:pb≠d) (hpos:0<P.length) (lP:P.length≤60000) (lM:M.length≤60000) (hc:P.length≤c) :
 Calls Tryz.prog 190 #[ptr d,sl pb po P.length c] w fun e w'=>e=.returned (.tuple #[i64 P.length,.nilIface])∧Mod [d] w w'∧DgAt (blk512 K) 128 v64 145 w' d ini fl (M++P):=by
 obtain⟨X,lX,hX,hB⟩:=hD
 have lh:=st512_length (K:=K) li M
 obtain⟨N,hN⟩:∃N,N=M.length+P.length:=⟨_,rfl⟩
 have bl:=DgRow.at_ln hB lh lX (o:=137) rfl
 have fl3:=hB.frozen 137
 have eN:(M.length:Int)+(P.length:Int)=(N:Int):=by omega
 have wP:IntKind.u64.wrap (P.length:Int)=(P.length:Int):=IntWalk.u64_in _ (by omega)
 have wN:IntKind.u64.wrap (N:Int)=(N:Int):=IntWalk.u64_in _ (by omega)
 obtain⟨w1,hw1⟩:∃w1,w1=w.setCell ⟨d,137,none⟩ (u64 N):=⟨_,rfl⟩
 have hB1:Blk w1 d 145 (DgRow v64 (stH (blk512 K) 128 ini M) X (M.length%128) N fl):=by rw[hw1];exact DgRow.put_ln hB lh lX rfl N
 have m1:Mod [d] w w1:=by rw[hw1];exact(Mod.refl [d] w).setCell _ _ (by simp)
 have hKd:6≠d:=hK.ne hB (by decide)
 have HN:=hide hN
 have HP:=hide (fun w' (m:Mod [d] w w') (i:Nat) (hi:i<P.length)=>cell_off (hp i hi) m (by simpa using hpd))
 obtain⟨m,hm⟩:∃m,m=M.length%128:=⟨_,rfl⟩
 rw[←hm]at hX hB1
 have hmC:m<128:=by omega
 have HM:=hide hm
 have bn:=DgRow.at_nx hB1 lh lX (o:=136) rfl
 have fn:=hB1.frozen 136
 obtain⟨hs,hhs⟩:∃hs,hs=stH (blk512 K) 128 ini M:=⟨_,rfl⟩
 rw[←hhs]at lh hB1
 have HHS:=hide hhs
 have HX:=hide hX
 have HK:=hide (fun w' (mm:Mod [d] w w')=>hK.mod mm (by simp;exact hKd))
 clear hN hp hB hm hhs hX hK
 go_enter Tryz.func190,Tryz.ntmps190
 go_upto_region 3 with fail
 rw[←hw1]
 clear hw1 bl fl3 eN wN
 go_upto_if 23 with fail
 go_cut [1]from 6 to 58 (fun pv wx=>∃t,WrRel (blk512 K) 128 v64 145 ini fl M P N w d pb po pv wx t)
 case first=>
  by_cases h0:0<m
  ·by_cases hf:128≤m+P.length
   ·obtain⟨t,ht⟩:∃t,t=128-m:=⟨_,rfl⟩
    obtain⟨w2,hw2⟩:∃w2,w2=w1.drew.setRow d (splice' (DgRow v64 hs X m N fl) ((P.take t).map u8) (8+m)).toArray:=⟨_,rfl⟩
    have hlt:(P.take t).length=t:=by rw[List.length_take];omega
    have hcp:∀ty,(Builtin.copy_ #[23,23] ty #[sl d (8+m) t t,sl pb po P.length c]).run Tryz.prog w1.drew=.ok (goInt t) w2:=fun ty=>by
     have h:=run_copy_cells (P:=Tryz.prog) (t':=23) (ty:=ty) Tryz.underlying23 size_u8 hB1.drew (8+m) t t ⟨pb,po,none⟩ P.length c (us:=(P.take t).map u8) (by rw[List.length_map,hlt];exact(Nat.min_eq_right (by omega)).symm)
      (fun j v hj=>by
        have hjl:j<(P.take t).length:=by simpa using(List.getElem?_eq_some_iff.1 hj).1
        rw[map_get hjl,nth_take (by omega)]at hj
        rw[add_addr,HP.out w1.drew m1.drew j (by omega)]
        exact hj) (by rw[List.length_map,hlt,DgRow.length lh lX];omega) (oneCell_map u8 (fun _=>rfl) _)
     rw[List.length_map,hlt,←hw2]at h
     exact h
    have hB2:Blk w2 d 145 (DgRow v64 hs (X.take m++P.take t++X.drop (m+t)) m N fl):=by
     rw[hw2]
     have h:=hB1.drew.splice ((P.take t).map u8) (8+m)
     have e:=DgRow.splice (k:=v64) (nx:=m) (ln:=N) (fl:=fl) (X:=X) (U:=P.take t) lh (o:=m) (by rw[hlt];omega)
     rw[hlt]at e
     rw[←e]
     exact h
    have m2:Mod [d] w w2:=by rw[hw2];exact m1.drew.setRow _ _ (by simp)
    have er:(128:Int)-(m:Int)=(t:Int):=by omega
    have em:(m:Int)+(t:Int)=128:=by omega
    have hsl:=fun u=>run_arr_from Tryz.underlying143 (n:=128) (by kernel_rfl) (by kernel_rfl) (by kernel_rfl) d 8 m hmC u
    rw[←ht]at hsl
    have HT:=hide ht
    have l2:(X.take m++P.take t++X.drop (m+t)).length=128:=by simp;omega
    clear hw2 ht
    go_upto_region 4 with fail
    go_region_held3 (fun w'=>w'.cell? ⟨d,136,none⟩=some (i64 m)) (first|exact bn|exact DgRow.at_nx hB2 lh l2 rfl) (fail)
    have hfl:=fun j=>nth_fill (X:=X) (P:=P) (m:=m) (t:=t) (j:=j) (by omega) (by have:=HT.out;omega)
    obtain⟨Xn,hXn⟩:∃Xn,Xn=X.take m++P.take t++X.drop (m+t):=⟨_,rfl⟩
    rw[←hXn]at hB2 l2 hfl
    have HFL:=hide hfl
    have bn2:=DgRow.at_nx hB2 lh l2 (o:=136) rfl
    have fn2:=hB2.frozen 136
    obtain⟨w3,hw3⟩:∃w3,w3=w2.setCell ⟨d,136,none⟩ (.int .i64 128):=⟨_,rfl⟩
    have hB3:Blk w3 d 145 (DgRow v64 hs Xn 128 N fl):=by rw[hw3];exact DgRow.put_nx hB2 lh l2 rfl 128
    have m3:Mod [d] w w3:=by rw[hw3];exact m2.setCell _ _ (by simp)
    have bn3:=DgRow.at_nx hB3 lh l2 (o:=136) rfl
    have hsa:=fun u=>run_arr_all Tryz.underlying143 (n:=128) (by kernel_rfl) (by kernel_rfl) (by kernel_rfl) d 8 (by omega) u
    have CB:=c_blkw512 d hs (Xn.map u8++[i64 128,u64 N,fl]) K d 8 128 Xn w3 hB3 lh (HK.out w3 m3) lK (fun i hi=>DgRow.at_x hB3 lh hi) (by omega) (by omega)
    rw[l2,Nat.div_self (by omega:0<128)]at CB
    have CBH:=hide CB
    have lt1:(t:Int)≤(P.length:Int):=by have:=HT.out;omega
    clear hXn hfl hcp hsl er CB bn fn
    go_upto_region 6 with fail
    rw[←hw3]
    clear hw3 bn2 fn2
    go_wp2_with fail
    refine CBH.out.mono ?_
    rintro e w4 ⟨rfl,m4,hB4⟩
    obtain⟨h2,hh2⟩:∃h2,h2=runH (blk512 K) 128 hs Xn 0 1:=⟨_,rfl⟩
    have lh2:h2.length=8:=by rw[hh2];exact runH_length (fun h L=>blk512_length K h L) lh _ _ _
    rw[←hh2]at hB4
    have hB4':Blk w4 d 145 (DgRow v64 h2 Xn 128 N fl):=hB4
    have m4':Mod [d] w w4:=m3.trans m4 (fun _ h _=>h) (fun _ h _=>h)
    have HH2:=hide hh2
    have bn4:=DgRow.at_nx hB4' lh2 l2 (o:=136) rfl
    have fn4:=hB4'.frozen 136
    have hB5:=DgRow.put_nx hB4' lh2 l2 (o:=136) rfl 0
    have m5:Mod [d] w (w4.setCell ⟨d,136,none⟩ (i64 0)):=m4'.setCell _ _ (by simp)
    have hrel:∀o c2,P.length-t≤c2→(t<P.length→o=po+t)→WrRel (blk512 K) 128 v64 145 ini fl M P N w d pb po (sl pb o (P.length-t) c2) (w4.setCell ⟨d,136,none⟩ (i64 0)) t:=by
     intro o c2 h1 h3
     have hm:=HM.out
     have ht:=HT.out
     have hz:(M.length+t)%128=0:=by omega
     refine⟨o,c2,h2,Xn,rfl,by omega,h1,h3,m5,l2,lh2,by rw[hz];exact hB5,hide ⟨?_,fun j hj=>by rw[hz]at hj;omega,fun _=>hz⟩⟩
     have hf2:=st_fill (F:=blk512 K) (C:=128) (h:=ini) (M:=M) (p:=P) (by omega) (by omega) Xn (fun j hj=>by rw[(HFL.out j).1 (by omega)];exact HX.out j (by omega)) (fun j h4 h5=>by rw[←hm];exact(HFL.out j).2 (by omega) (by omega))
     rw[←hm,←ht,←HHS.out,←HH2.out]at hf2
     exact hf2.1.symm
    clear hB4 hB4' hh2 CBH hB3 m3 bn3 hsa hB1 hB2 m1 m2
    go_wp2_with fail
    ·go_meet
     exact⟨t,hrel _ _ (by omega) (fun h=>by omega)⟩
    ·go_meet
     exact⟨t,hrel _ _ (by omega) (fun _=>rfl)⟩
   ·obtain⟨r,hr⟩:∃r,r=128-m:=⟨_,rfl⟩
    obtain⟨w2,hw2⟩:∃w2,w2=w1.drew.setRow d (splice' (DgRow v64 hs X m N fl) (P.map u8) (8+m)).toArray:=⟨_,rfl⟩
    have hcp:∀ty,(Builtin.copy_ #[23,23] ty #[sl d (8+m) r r,sl pb po P.length c]).run Tryz.prog w1.drew=.ok (goInt P.length) w2:=fun ty=>by
     have h:=run_copy_cells (P:=Tryz.prog) (t':=23) (ty:=ty) Tryz.underlying23 size_u8 hB1.drew (8+m) r r ⟨pb,po,none⟩ P.length c (us:=P.map u8) (by rw[List.length_map];exact(Nat.min_eq_left (by omega)).symm)
      (fun j v hj=>by
        have hjl:j<P.length:=by simpa using(List.getElem?_eq_some_iff.1 hj).1
        rw[map_get hjl]at hj
        rw[add_addr,HP.out w1.drew m1.drew j (by omega)]
        exact hj) (by rw[List.length_map,DgRow.length lh lX];omega) (oneCell_map u8 (fun _=>rfl) _)
     rw[List.length_map,←hw2]at h
     exact h
    have hB2:Blk w2 d 145 (DgRow v64 hs (X.take m++P++X.drop (m+P.length)) m N fl):=by
     rw[hw2]
     have h:=hB1.drew.splice (P.map u8) (8+m)
     have e:=DgRow.splice (k:=v64) (nx:=m) (ln:=N) (fl:=fl) (X:=X) (U:=P) lh (o:=m) (by omega)
     rw[←e]
     exact h
    have m2:Mod [d] w w2:=by rw[hw2];exact m1.drew.setRow _ _ (by simp)
    have hsl:=fun u=>run_arr_from Tryz.underlying143 (n:=128) (by kernel_rfl) (by kernel_rfl) (by kernel_rfl) d 8 m hmC u
    rw[←hr]at hsl
    obtain⟨nn,hnn⟩:∃nn,nn=m+P.length:=⟨_,rfl⟩
    have em:(m:Int)+(P.length:Int)=(nn:Int):=by omega
    have g64:((nn:Int) == 128)=false:=by rw[beq_eq_false_iff_ne];omega
    have l2:(X.take m++P++X.drop (m+P.length)).length=128:=by simp;omega
    have hfl:=fun j=>nth_fill (X:=X) (P:=P) (m:=m) (t:=P.length) (j:=j) (by omega) (by omega)
    rw[List.take_length]at hfl
    obtain⟨Xn,hXn⟩:∃Xn,Xn=X.take m++P++X.drop (m+P.length):=⟨_,rfl⟩
    rw[←hXn]at hB2 l2 hfl
    have HFL:=hide hfl
    have bn2:=DgRow.at_nx hB2 lh l2 (o:=136) rfl
    have fn2:=hB2.frozen 136
    obtain⟨w3,hw3⟩:∃w3,w3=w2.setCell ⟨d,136,none⟩ (i64 nn):=⟨_,rfl⟩
    have hB3:Blk w3 d 145 (DgRow v64 hs Xn nn N fl):=by rw[hw3];exact DgRow.put_nx hB2 lh l2 rfl nn
    have m3:Mod [d] w w3:=by rw[hw3];exact m2.setCell _ _ (by simp)
    have bn3:=DgRow.at_nx hB3 lh l2 (o:=136) rfl
    have HNN:=hide hnn
    have hrel:∀o c2,WrRel (blk512 K) 128 v64 145 ini fl M P N w d pb po (sl pb o 0 c2) w3 P.length:=by
     intro o c2
     have hm:=HM.out
     have hn:=HNN.out
     have hz:(M.length+P.length)%128=nn:=by omega
     have hq:(M.length+P.length)/128=M.length/128:=by omega
     have h6:=st_small (F:=blk512 K) (C:=128) (h:=ini) (M:=M) (p:=P) (by omega)
     refine⟨o,c2,hs,Xn,by rw[Nat.sub_self],by omega,by omega,fun h=>by omega,m3,l2,lh,by rw[hz];exact hB3,hide ⟨by rw[List.take_length,h6.1,HHS.out],fun j hj=>?_,fun h=>by omega⟩⟩
     rw[hz]at hj
     rw[List.take_length,hq]
     by_cases hj2:j<m
     ·rw[(HFL.out j).1 hj2,HX.out j hj2,nth_append_left (by omega)]
     ·rw[(HFL.out j).2 (by omega) (by omega),nth_append_right (by omega)]
      congr 1
      omega
    clear hw2 hr hnn hXn hfl
    go_upto_region 4 with fail
    go_region_held3 (fun w'=>w'.cell? ⟨d,136,none⟩=some (i64 m)) (first|exact bn|exact DgRow.at_nx hB2 lh l2 rfl) (fail)
    clear hcp hsl bn fn
    go_upto_region 6 with fail
    rw[←hw3]
    clear hw3 bn2 fn2 hB1 hB2 hB3 m1 m2
    go_wp2_with fail
    all_goals go_meet
    all_goals exact⟨P.length,hrel _ _⟩
  ·obtain rfl:m=0:=by omega
   go_wp2_with fail
   go_meet
   exact⟨0,po,c,hs,X,rfl,by omega,hc,fun _=>rfl,m1,lX,lh,by rw[Nat.add_zero,←HM.out];exact hB1,hide ⟨by rw[List.take_zero,List.append_nil];exact HHS.out,fun j hj=>by rw[Nat.add_zero,←HM.out]at hj;omega,fun _=>by rw[Nat.add_zero,←HM.out]⟩⟩
 case rest=>
  obtain⟨t,o,c2,h2,X2,rfl,ht,hc2,ho,mc,l2,lh2,hB2,HR⟩:=hcut
  obtain⟨L,hL⟩:∃L,L=P.length-t:=⟨_,rfl⟩
  rw[←hL]at hc2 ⊢
  have HL:=hide hL
  have HO:=hide ho
  clear hL ho hB1 bn fn m1
  go_upto_if 61 with fail
  go_cut [1]from 7 to 72 (fun pv wx=>∃t,WrRel (blk512 K) 128 v64 145 ini fl M P N w d pb po pv wx t∧P.length-t<128)
  case first=>
   by_cases hg:128≤L
   ·obtain⟨n1,hn1⟩:∃n1,n1=128*(L/128):=⟨_,rfl⟩
    have eA:bits .andNot .i64 (L:Int) 127=(n1:Int):=by rw[hn1];exact andNot127 L (by have:=HL.out;omega)
    have hg1:(128:Int)≤(L:Int):=by omega
    have hn1L:n1≤L:=by omega
    have hn1L':(n1:Int)≤(L:Int):=by omega
    have g65:¬(65536:Int)<(n1:Int):=by have:=HL.out;omega
    have hlen:(cut P t n1).length=n1:=cut_length ..
    have CB:=c_blkw512 d h2 (X2.map Go.Proofs.YtfgmnbmnpihjdaaGreatDoor.u8++[Go.Proofs.YtfgmnbmnpihjdaaGreatDoor.i64 ((M.length+t)%128),Go.Proofs.YtfgmnbmnpihjdaaGreatDoor.u64 N,fl]) K pb o c2 (cut P t n1) wc hB2 lh2 (HK.out wc mc) lK
     (fun i hi=>by
       rw[hlen]at hi
       have hl:=HL.out
       rw[nth_cut hi,HO.out (by omega),Nat.add_assoc]
       exact HP.out wc mc (t+i) (by omega)) (by have:=HL.out;omega) (by omega)
    rw[hlen]at CB
    have CBH:=hide CB
    have HN1:=hide hn1
    clear CB hn1
    go_wp2_with fail
    refine CBH.out.mono ?_
    rintro e w4 ⟨rfl,m4,hB4⟩
    obtain⟨h3,hh3⟩:∃h3,h3=runH (blk512 K) 128 h2 (cut P t n1) 0 (n1/128):=⟨_,rfl⟩
    have lh3:h3.length=8:=by rw[hh3];exact runH_length (fun h L=>blk512_length K h L) lh2 _ _ _
    rw[←hh3]at hB4
    have hrel:∀o' c',L-n1≤c'→(n1<L→o'=o+n1)→WrRel (blk512 K) 128 v64 145 ini fl M P N w d pb po (sl pb o' (L-n1) c') w4 (t+n1)∧P.length-(t+n1)<128:=by
     intro o' c' h1 h5
     have hl:=HL.out
     have hn:=HN1.out
     have hz0:=HR.out.2.2 (by omega)
     have hz:(M.length+(t+n1))%128=0:=by omega
     have ho2:=HO.out (by omega)
     refine⟨⟨o',c',h3,X2,by rw[hl,Nat.sub_sub],by omega,by omega,fun h=>by rw[h5 (by omega),ho2];omega,mc.trans m4 (fun _ h _=>h) (fun _ h _=>h),l2,lh3,by rw[hz,←hz0];exact hB4,hide ⟨?_,fun j hj=>by rw[hz]at hj;omega,fun _=>hz⟩⟩,by omega⟩
     rw[take_cut (by omega),←List.append_assoc]
     have hlm:(M++P.take t).length=M.length+t:=by rw[List.length_append,List.length_take];omega
     have h6:=st_blocks (F:=blk512 K) (C:=128) (h:=ini) (M:=M++P.take t) (p:=cut P t n1) (by omega) (by rw[hlm];exact hz0)
     rw[h6.1,←HR.out.1,hlen,hh3]
    clear hB4 hh3 CBH hB2 eA
    go_wp2_with fail
    all_goals go_meet
    ·exact⟨t+n1,hrel _ _ (by omega) (fun h=>by omega)⟩
    ·exact⟨t+n1,hrel _ _ (by omega) (fun _=>rfl)⟩
   ·have hg1:¬(128:Int)≤(L:Int):=by omega
    go_wp2_with fail
    go_meet
    exact⟨t,⟨o,c2,h2,X2,by rw[←HL.out],ht,by rw[←HL.out];exact hc2,HO.out,mc,l2,lh2,hB2,HR⟩,by rw[←HL.out];omega⟩
  case rest=>
   clear hB2 HR l2 lh2 mc ht hc2 HO HL
   obtain⟨t,⟨o,c2,h2,X2,rfl,ht,hc2,ho,mc,l2,lh2,hB2,HR⟩,hlt⟩:=hcut
   obtain⟨L,hL⟩:∃L,L=P.length-t:=⟨_,rfl⟩
   rw[←hL]at hc2 hlt ⊢
   by_cases hz:L=0
   ·have htP:t=P.length:=by omega
    have hfin:DgAt (blk512 K) 128 v64 145 wc d ini fl (M++P):=by
     have h1:=HR.out
     rw[htP,List.take_length]at h1
     rw[htP,←HN.out]at hB2
     refine⟨X2,l2,?_,?_⟩
     ·rw[List.length_append];exact h1.2.1
     ·rw[List.length_append,←h1.1,←HN.out];exact hB2
    subst hz
    clear hL htP hB2 HR
    go_wp2_with fail
    go_ret2
    exact⟨rfl,mc,hfin⟩
   ·have hl0:(0:Int)<(L:Int):=by omega
    have hU:(cut P t L).length=L:=cut_length ..
    obtain⟨w5,hw5⟩:∃w5,w5=wc.setRow d (splice' (DgRow v64 h2 X2 ((M.length+t)%128) N fl) ((cut P t L).map Go.Proofs.YtfgmnbmnpihjdaaGreatDoor.u8) (8+0)).toArray:=⟨_,rfl⟩
    have hcp:∀ty,(Builtin.copy_ #[23,23] ty #[sl d 8 128 128,sl pb o L c2]).run Tryz.prog wc=.ok (goInt L) w5:=fun ty=>by
     have h:=run_copy_cells (P:=Tryz.prog) (t':=23) (ty:=ty) Tryz.underlying23 size_u8 hB2 (8+0) 128 128 ⟨pb,o,none⟩ L c2 (us:=(cut P t L).map Go.Proofs.YtfgmnbmnpihjdaaGreatDoor.u8) (by rw[List.length_map,hU];exact(Nat.min_eq_left (by omega)).symm)
      (fun j v hj=>by
        have hjl:j<(cut P t L).length:=by simpa using(List.getElem?_eq_some_iff.1 hj).1
        rw[hU]at hjl
        rw[map_get (by rw[hU];exact hjl),nth_cut hjl]at hj
        rw[add_addr,ho (by omega),Nat.add_assoc,HP.out wc mc (t+j) (by omega)]
        exact hj) (by rw[List.length_map,hU,DgRow.length lh2 l2];omega) (oneCell_map Go.Proofs.YtfgmnbmnpihjdaaGreatDoor.u8 (fun _=>rfl) _)
     rw[List.length_map,hU,←hw5]at h
     exact h
    have hB5:Blk w5 d 145 (DgRow v64 h2 (X2.take 0++cut P t L++X2.drop (0+L)) ((M.length+t)%128) N fl):=by
     rw[hw5]
     have h:=hB2.splice ((cut P t L).map Go.Proofs.YtfgmnbmnpihjdaaGreatDoor.u8) (8+0)
     have e:=DgRow.splice (k:=v64) (nx:=(M.length+t)%128) (ln:=N) (fl:=fl) (X:=X2) (U:=cut P t L) lh2 (o:=0) (by rw[hU];omega)
     rw[hU]at e
     rw[←e]
     exact h
    have m5:Mod [d] w w5:=by rw[hw5];exact mc.setRow _ _ (by simp)
    have l5:(X2.take 0++cut P t L++X2.drop (0+L)).length=128:=by rw[List.length_append,List.length_append,hU,List.length_take,List.length_drop];omega
    have hsa:=fun u=>run_arr_all Tryz.underlying143 (n:=128) (by kernel_rfl) (by kernel_rfl) (by kernel_rfl) d 8 (by omega) u
    have bn5:=DgRow.at_nx hB5 lh2 l5 (o:=136) rfl
    have fn5:=hB5.frozen 136
    have hfin:DgAt (blk512 K) 128 v64 145 (w5.setCell ⟨d,136,none⟩ (Go.Proofs.YtfgmnbmnpihjdaaGreatDoor.i64 L)) d ini fl (M++P):=by
     have h1:=HR.out
     have hz0:=h1.2.2 (by omega)
     have hB6:=DgRow.put_nx hB5 lh2 l5 (o:=136) rfl L
     have hm2:(M++P).length%128=L:=by rw[List.length_append];omega
     have hlm:(M++P.take t).length=M.length+t:=by rw[List.length_append,List.length_take];omega
     have hMP:M++P=(M++P.take t)++cut P t L:=by
      have:=take_cut (P:=P) (t:=t) (n:=L) (by omega)
      rw[show t+L=P.length by omega,List.take_length]at this
      rw[List.append_assoc,←this]
     have h6:=st_small (F:=blk512 K) (C:=128) (h:=ini) (M:=M++P.take t) (p:=cut P t L) (by rw[hlm,hU];omega)
     refine⟨_,l5,fun j hj=>?_,?_⟩
     ·rw[hm2]at hj
      rw[nth_append_left (by rw[List.length_append,hU];omega),List.take_zero,List.nil_append,List.length_append]
      rw[nth_append_right (by omega),nth_cut hj]
      congr 1
      omega
     ·rw[hm2,hMP,h6.1,←h1.1,←hMP,List.length_append,←HN.out]
      exact hB6
    have mf:Mod [d] w (w5.setCell ⟨d,136,none⟩ (Go.Proofs.YtfgmnbmnpihjdaaGreatDoor.i64 L)):=m5.setCell _ _ (by simp)
    clear hw5 hB2 hB5 HR hL ho hU l5 m5
    go_wp2_with fail
    go_ret2
    exact⟨rfl,mf,hfin⟩
def ini512:List Int:=[7640891576956012808,13503953896175478587,4354685564936845355,11912009170470909681,5840696475078001361,11170449401992604703,2270897969802886507,6620516959819538809]
set_option maxRecDepth 100000 in
theorem c_Reset512(F:List Int→List Nat→List Int)(d:Nat)(hs:List Int)(X:List Nat)(nx ln:Nat)(w:World)(hb:Blk w d 145 (DgRow v64 hs X nx ln (i64 64)))(lh:hs.length=8)(lX:X.length=128) :
 Calls Tryz.prog 77 #[ptr d] w fun e w'=>e=.returned (.tuple #[])∧Mod [d] w w'∧DgAt F 128 v64 145 w' d ini512 (i64 64) []:=by
 have c0:=DgRow.at_h hb lh (i:=0) (by omega)
 have c1:=DgRow.at_h hb lh (i:=1) (by omega)
 have c2:=DgRow.at_h hb lh (i:=2) (by omega)
 have c3:=DgRow.at_h hb lh (i:=3) (by omega)
 have c4:=DgRow.at_h hb lh (i:=4) (by omega)
 have c5:=DgRow.at_h hb lh (i:=5) (by omega)
 have c6:=DgRow.at_h hb lh (i:=6) (by omega)
 have c7:=DgRow.at_h hb lh (i:=7) (by omega)
 have cn:=DgRow.at_nx hb lh lX (o:=136) rfl
 have cl:=DgRow.at_ln hb lh lX (o:=137) rfl
 have cf:=DgRow.at_fl hb lh lX (o:=138) rfl
 have f0:=hb.frozen 0
 have f1:=hb.frozen 1
 have f2:=hb.frozen 2
 have f3:=hb.frozen 3
 have f4:=hb.frozen 4
 have f5:=hb.frozen 5
 have f6:=hb.frozen 6
 have f7:=hb.frozen 7
 have fn:=hb.frozen 136
 have fl':=hb.frozen 137
 have b1:=put8_blk hb lh 7640891576956012808 13503953896175478587 4354685564936845355 11912009170470909681 5840696475078001361 11170449401992604703 2270897969802886507 6620516959819538809
 have b2:=(DgRow.put_nx b1 rfl lX (o:=136) rfl 0)
 have b3:=hide (DgRow.put_ln b2 rfl lX (o:=137) rfl 0)
 have m3:=hide (((put8_mod w d v64 7640891576956012808 13503953896175478587 4354685564936845355 11912009170470909681 5840696475078001361 11170449401992604703 2270897969802886507 6620516959819538809).setCell ⟨d,136,none⟩ (i64 0) (by simp)).setCell ⟨d,137,none⟩ (u64 0) (by simp))
 clear b1 b2 hb
 go_enter Tryz.func77,Tryz.ntmps77
 go_wp2_with fail
 go_end0
 exact⟨rfl,m3.out,X,lX,fun j hj=>absurd hj (by simp),b3.out⟩
set_option maxRecDepth 100000 in
theorem c_Size512(d:Nat)(hs:List Int)(X:List Nat)(nx ln:Nat)(w:World)(hb:Blk w d 145 (DgRow v64 hs X nx ln (i64 64)))(lh:hs.length=8)(lX:X.length=128) :
 Calls Tryz.prog 188 #[ptr d] w fun e w'=>e=.returned (i64 64)∧w=w':=by
 have cf:=DgRow.at_fl hb lh lX (o:=138) rfl
 clear hb
 go_enter Tryz.func188,Tryz.ntmps188
 go_wp2_with fail
 go_ret
 exact⟨rfl,rfl⟩
def ini384:List Int:=[14680500436340154072,7105036623409894663,10473403895298186519,1526699215303891257,7436329637833083697,10282925794625328401,15784041429090275239,5167115440072839076]
set_option maxRecDepth 100000 in
theorem c_Reset384(F:List Int→List Nat→List Int)(d:Nat)(hs:List Int)(X:List Nat)(nx ln:Nat)(w:World)(hb:Blk w d 145 (DgRow v64 hs X nx ln (i64 48)))(lh:hs.length=8)(lX:X.length=128) :
 Calls Tryz.prog 77 #[ptr d] w fun e w'=>e=.returned (.tuple #[])∧Mod [d] w w'∧DgAt F 128 v64 145 w' d ini384 (i64 48) []:=by
 have c0:=DgRow.at_h hb lh (i:=0) (by omega)
 have c1:=DgRow.at_h hb lh (i:=1) (by omega)
 have c2:=DgRow.at_h hb lh (i:=2) (by omega)
 have c3:=DgRow.at_h hb lh (i:=3) (by omega)
 have c4:=DgRow.at_h hb lh (i:=4) (by omega)
 have c5:=DgRow.at_h hb lh (i:=5) (by omega)
 have c6:=DgRow.at_h hb lh (i:=6) (by omega)
 have c7:=DgRow.at_h hb lh (i:=7) (by omega)
 have cn:=DgRow.at_nx hb lh lX (o:=136) rfl
 have cl:=DgRow.at_ln hb lh lX (o:=137) rfl
 have cf:=DgRow.at_fl hb lh lX (o:=138) rfl
 have f0:=hb.frozen 0
 have f1:=hb.frozen 1
 have f2:=hb.frozen 2
 have f3:=hb.frozen 3
 have f4:=hb.frozen 4
 have f5:=hb.frozen 5
 have f6:=hb.frozen 6
 have f7:=hb.frozen 7
 have fn:=hb.frozen 136
 have fl':=hb.frozen 137
 have b1:=put8_blk hb lh 14680500436340154072 7105036623409894663 10473403895298186519 1526699215303891257 7436329637833083697 10282925794625328401 15784041429090275239 5167115440072839076
 have b2:=(DgRow.put_nx b1 rfl lX (o:=136) rfl 0)
 have b3:=hide (DgRow.put_ln b2 rfl lX (o:=137) rfl 0)
 have m3:=hide (((put8_mod w d v64 14680500436340154072 7105036623409894663 10473403895298186519 1526699215303891257 7436329637833083697 10282925794625328401 15784041429090275239 5167115440072839076).setCell ⟨d,136,none⟩ (i64 0) (by simp)).setCell ⟨d,137,none⟩ (u64 0) (by simp))
 clear b1 b2 hb
 go_enter Tryz.func77,Tryz.ntmps77
 go_wp2_with fail
 go_end0
 exact⟨rfl,m3.out,X,lX,fun j hj=>absurd hj (by simp),b3.out⟩
set_option maxRecDepth 100000 in
theorem c_Size384(d:Nat)(hs:List Int)(X:List Nat)(nx ln:Nat)(w:World)(hb:Blk w d 145 (DgRow v64 hs X nx ln (i64 48)))(lh:hs.length=8)(lX:X.length=128) :
 Calls Tryz.prog 188 #[ptr d] w fun e w'=>e=.returned (i64 48)∧w=w':=by
 have cf:=DgRow.at_fl hb lh lX (o:=138) rfl
 clear hb
 go_enter Tryz.func188,Tryz.ntmps188
 go_wp2_with fail
 go_ret
 exact⟨rfl,rfl⟩
set_option maxRecDepth 100000 in
theorem c_New512(F:List Int→List Nat→List Int)(w:World) :
 Calls Tryz.prog 54 #[] w fun e w'=>∃d,e=.returned (ptr d)∧Mod [] w w'∧w.heap.size≤d∧DgAt F 128 v64 145 w' d ini512 (i64 64) []:=by
 obtain⟨W,hW⟩:∃W,W=w.alloc (.cells (DgRow v64 (List.replicate 8 0) (List.replicate 128 0) 0 0 (i64 64)).toArray 145):=⟨_,rfl⟩
 have hB:Blk W w.heap.size 145 (DgRow v64 (List.replicate 8 0) (List.replicate 128 0) 0 0 (i64 64)):=by rw[hW];exact Blk.new w _ _
 have mW:Mod [] w W:=by rw[hW];exact(Mod.refl [] w).alloc _
 go_enter Tryz.func54,Tryz.ntmps54
 go_upto_region 2 with fail
 refine(?_:Code.wp _ _ _ _ (w.alloc (.cells (DgRow v64 (List.replicate 8 0) (List.replicate 128 0) 0 0 (i64 64)).toArray 145)))
 rw[←hW]
 clear hW
 go_wp2_with fail
 refine(c_Reset512 F _ _ _ _ _ _ hB rfl rfl).mono ?_
 rintro e w2 ⟨rfl,m2,h2⟩
 go_wp2_with fail
 go_ret
 exact⟨_,rfl,mW.old m2,Nat.le_refl _,h2⟩
set_option maxRecDepth 100000 in
theorem c_New384(F:List Int→List Nat→List Int)(w:World) :
 Calls Tryz.prog 53 #[] w fun e w'=>∃d,e=.returned (ptr d)∧Mod [] w w'∧w.heap.size≤d∧DgAt F 128 v64 145 w' d ini384 (i64 48) []:=by
 obtain⟨W,hW⟩:∃W,W=w.alloc (.cells (DgRow v64 (List.replicate 8 0) (List.replicate 128 0) 0 0 (i64 48)).toArray 145):=⟨_,rfl⟩
 have hB:Blk W w.heap.size 145 (DgRow v64 (List.replicate 8 0) (List.replicate 128 0) 0 0 (i64 48)):=by rw[hW];exact Blk.new w _ _
 have mW:Mod [] w W:=by rw[hW];exact(Mod.refl [] w).alloc _
 go_enter Tryz.func53,Tryz.ntmps53
 go_upto_region 2 with fail
 refine(?_:Code.wp _ _ _ _ (w.alloc (.cells (DgRow v64 (List.replicate 8 0) (List.replicate 128 0) 0 0 (i64 48)).toArray 145)))
 rw[←hW]
 clear hW
 go_wp2_with fail
 refine(c_Reset384 F _ _ _ _ _ _ hB rfl rfl).mono ?_
 rintro e w2 ⟨rfl,m2,h2⟩
 go_wp2_with fail
 go_ret
 exact⟨_,rfl,mW.old m2,Nat.le_refl _,h2⟩
set_option maxRecDepth 100000 in
theorem c_put64_512(b o n c T:Nat)(v:Int)(V:List Nat)(w:World)(hb:Blk w b T (V.map u8))(hn:8≤n)(hl:o+8≤V.length) :
 Calls Tryz.prog 193 #[sl b o n c,.int .u64 v] w fun e w'=>∃O,e=.returned (.tuple #[])∧Mod [b] w w'∧Blk w' b T (O.map u8)∧Hid (PutB V O o 8 (fun j=>(v/2^(56-8*j)%256).toNat)):=by
 have h7:=hb.at (o+7) (by omega)
 have g7:(7:Int)<(n:Int):=by omega
 go_enter Tryz.func193,Tryz.ntmps193
 go_wp2_with fail
 clear h7 g7
 go_loopw [4] (fun iv wr=>∃(i:Nat) (O:List Nat),iv=i64 i∧i≤8∧Mod [b] w wr∧Blk wr b T (O.map u8)∧Hid (PutB V O o i (fun j=>(v/2^(56-8*j)%256).toNat))) (fun iv _=>8-(intOf iv).toNat)
 case atStart=>exact⟨0,V,rfl,by omega,Mod.refl _ _,hb,hide (PutB.start ..)⟩
 case round=>
  obtain⟨i,O,rfl,hi,hm,hO,hS⟩:=hrel
  by_cases h1:i<8
  ·obtain⟨s,hs⟩:∃s,s=56-8*i:=⟨_,rfl⟩
   obtain⟨i8,hi8⟩:∃i8,i8=8*i:=⟨_,rfl⟩
   have e1:8*(i:Int)=(i8:Int):=by omega
   have e2:(56:Int)-(i8:Int)=(s:Int):=by omega
   have hlen:=hS.out.len
   have hc0:=hO.at (o+i) (by omega)
   have hf0:=hO.frozen (o+i)
   have gi:(i:Int)<(n:Int):=by omega
   obtain⟨q,hq⟩:∃q,q=(v/2^s%256).toNat:=⟨_,rfl⟩
   have hq1:(v/2^s)%256=(q:Int):=by rw[hq];exact(Int.toNat_of_nonneg (Int.emod_nonneg _ (by decide))).symm
   have hS2:=hide (hS.out.next h1 hl (v:=q) (by rw[hq,hs]))
   have hO2:=hO.set (o+i) q
   have hm2:Mod [b] w (wr.setCell ⟨b,o+i,none⟩ (Go.Proofs.YtfgmnbmnpihjdaaGreatDoor.u8 q)):=hm.setCell _ _ (by simp)
   have hsb:s≤56:=by omega
   clear hs hi8 hq
   go_wp2_with fail
   go_roundw
   case rel=>exact⟨i+1,_,by go_num,by omega,hm2,hO2,hS2⟩
   case measure=>simp[intOf];omega
  ·obtain rfl:i=8:=by omega
   go_wp2_with fail
   go_end0
   exact⟨O,rfl,hm,hO,hS⟩
end Go.Proofs.YtfgmnbmnpihjdaaGreatDoor
