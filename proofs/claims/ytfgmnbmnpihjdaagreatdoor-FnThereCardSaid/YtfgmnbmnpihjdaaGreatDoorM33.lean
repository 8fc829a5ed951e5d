/- Lemmas of mine for the walk and its plain laws: HzM HzN HzO HzP NatV -/
import Derived.Test.YtfgmnbmnpihjdaaGreatDoorM32
import Derived.Deep.AppendSrc
import Derived.Test.YtfgmnbmnpihjdaaGreatDoorM17
set_option linter.all false
set_option exponentiation.threshold 7000000
set_option maxHeartbeats 2000000
namespace Go.Proofs.YtfgmnbmnpihjdaaGreatDoor
open Go.RowKit
set_option maxRecDepth 100000 in
theorem z_Mixed(a oa ca b ob cb n:Nat)(A B:List Nat)(w:World)(bA:Bytes A)(bB:Bytes B)(hn:n≤100000)(ha:∀i,i<n→w.cell? ⟨a,oa+i,none⟩=some (Go.Proofs.YtfgmnbmnpihjdaaGreatDoor.u8 (nth A i)))(m:Nat)(hm':n≤m)(hb:∀i,i<n→w.cell? ⟨b,ob+i,none⟩=some (Go.Proofs.YtfgmnbmnpihjdaaGreatDoor.u8 (nth B i))) :
 Calls Tryz.prog 17 #[sl a oa n ca,sl b ob m cb] w fun e w'=>Mod [] w w'∧∃v,e=.returned v∧∃L:List Int,L.length=n∧ByI L∧OwnI v8 5 w' w.heap.size v L:=by
 have hown0:OwnI v8 5 (w.alloc (.cells #[] 5)) w.heap.size (sl w.heap.size 0 0 0) []:=OwnI.ofBlk (rest:=[]) (Nat.le_refl _) (Blk.new w _ []) rfl (by simp[maxLen])
 have HA:=hide ha
 have HB:=hide hb
 clear ha hb
 go_enter Tryz.func17,Tryz.ntmps17
 go_wp2_with fail
 go_loopw [5,10] (fun v i wr=>∃(j:Nat) (L:List Int) (vv:Value),vv=v∧i=i64 j∧j≤n∧ZS v8 5 w vv L wr∧L.length=j∧ByI L) (fun _ i _=>n-(intOf i).toNat)
 case atStart=>exact⟨0,[],_,rfl,rfl,by omega,⟨(Mod.refl _ _).alloc _,hown0⟩,rfl,by intro z hz;simp at hz⟩
 case round=>
  obtain⟨j,L,vv,rfl,rfl,hj,hZ,hL,hby⟩:=hrel
  by_cases h:j<n
  ·have g:(j:Int)<(n:Int):=by omega
   have g2:(j:Int)<(m:Int):=by omega
   obtain⟨x,hx⟩:∃x,x=nth A j:=⟨_,rfl⟩
   obtain⟨y,hy⟩:∃y,y=nth B j:=⟨_,rfl⟩
   have hall:Hid (∀w',ZS v8 5 w vv L w'→w'.cell? ⟨a,oa+j,none⟩=some (Go.Proofs.YtfgmnbmnpihjdaaGreatDoor.u8 x)∧w'.cell? ⟨b,ob+j,none⟩=some (Go.Proofs.YtfgmnbmnpihjdaaGreatDoor.u8 y)∧ZS v8 5 w vv L w'):=
    hide fun w' hz=>⟨by rw[hx];exact cell_up0 (HA.out j h) hz.m,by rw[hy];exact cell_up0 (HB.out j h) hz.m,hz⟩
   have hx8:x<256:=by rw[hx];exact bA j
   have hy8:y<256:=by rw[hy];exact bB j
   have HXY:=hide (xor_u8 hx8 hy8)
   have HX8:=hide (And.intro hx8 hy8)
   have ej:IntKind.i64.wrap ((j:Int)+1)=((j+1:Nat):Int):=by rw[IntKind.wrap_i64];omega
   have wj:IntKind.i64.wrap (j:Int)=(j:Int):=IntWalk.i64_in _ (by omega)
   have ll:L.length<900000:=by omega
   have HLL:=hide (And.intro hL hby)
   clear hx hy hx8 hy8 hL hby
   go_wp2_with fail
   go_region_held3 (fun w'=>w'.cell? ⟨a,oa+j,none⟩=some (Go.Proofs.YtfgmnbmnpihjdaaGreatDoor.u8 x)∧w'.cell? ⟨b,ob+j,none⟩=some (Go.Proofs.YtfgmnbmnpihjdaaGreatDoor.u8 y)∧ZS v8 5 w vv L w')
    (first|with_reducible assumption|(refine hall.out _ ?_;(repeat (first|with_reducible refine ZS.drewN ?_ _|with_reducible refine ZS.drew ?_|with_reducible refine ZS.alloc ?_ _));with_reducible exact hZ)|exact hall.out _ hold')
    ((refine step_push1 (w:=w) (v:=vv) (L:=L) rfl _ _ _ rfl v8 rfl Tryz.underlying23 info_u8 (by omega) (fun _=>rfl) (by(repeat (first|with_reducible refine ZS.drewN ?_ _|with_reducible refine ZS.drew ?_|with_reducible refine ZS.alloc ?_ _));with_reducible exact hZ) ll rfl rfl (by(repeat (first|with_reducible refine cell_drew ?_|with_reducible refine cell_drewN ?_));exact cell_new1 _ _ _ _) ?_;intro v' w' hold' hnew'))
   clear hZ
   go_wp2_with fail
   go_roundw
   case rel=>exact⟨j+1,_,v',rfl,by first|rfl|(simp[i64];done),by omega,hnew',by rw[List.length_append,HLL.out.1];rfl,HLL.out.2.append (by
    intro z hz
    simp only[List.mem_cons,List.not_mem_nil,or_false]at hz
    subst hz
    rw[HXY.out]
    have h8:x ^^^ y<2^8:=Nat.xor_lt_two_pow HX8.out.1 HX8.out.2
    omega)⟩
   case measure=>simp[intOf];omega
  ·obtain rfl:j=n:=by omega
   have g:¬(j:Int)<(j:Int):=by omega
   have HLL:=hide (And.intro hL hby)
   clear hL hby
   go_wp2_with fail
   go_ret
   exact⟨hZ.m,_,rfl,L,HLL.out.1,HLL.out.2,hZ.o⟩
set_option maxRecDepth 100000 in
theorem z_Mask(h:Nat)(hh:h=28∨h=32∨h=48∨h=64)(vs:Value)(S:List Nat)(N:Nat)(w:World)(hs:SliceB w vs S)(bS:Bytes S)(lS:S.length≤2000)(hN:N≤2000)(hN0:0<N) :
 Calls Tryz.prog 18 #[i64 (8*h),vs,i64 N] w fun e w'=>Mod [] w w'∧∃g c,e=.returned (sl g 0 N c)∧w.heap.size≤g∧∃B:List Nat,B.length=N∧Bytes B∧N≤c∧∀i,i<N→w'.cell? ⟨g,i,none⟩=some (Go.Proofs.YtfgmnbmnpihjdaaGreatDoor.u8 (nth B i)):=by
 have hown0:Own Go.Proofs.YtfgmnbmnpihjdaaGreatDoor.u8 5 (w.alloc (.cells #[] 5)) w.heap.size (sl w.heap.size 0 0 0) []:=Own.ofBlk (rest:=[]) (Nat.le_refl _) (Blk.new w _ []) rfl (by simp[maxLen])
 obtain⟨a0,c0,rfl⟩:=SliceB.isSlice hs
 obtain⟨bits8,hb8⟩:∃b,b=8*h:=⟨_,rfl⟩
 have h28:28≤h∧h≤64:=by omega
 have CH:=hide (fun vd B w' (hd:SliceB w' vd B) (bB:Bytes B) (lB:B.length≤40000)=>z_Hash h hh vd B w' hd bB lB)
 rw[←hb8]at CH ⊢
 have HS:=hide (And.intro hs bS)
 clear hs bS hh hb8
 go_enter Tryz.func18,Tryz.ntmps18
 go_wp2_with fail
 go_loopw [7,8] (fun v c wr=>∃(k:Nat) (L:List Nat) (vv:Value),vv=v∧c=i64 k∧k≤L.length∧L.length≤N+64∧Mod [] w wr∧Own Go.Proofs.YtfgmnbmnpihjdaaGreatDoor.u8 5 wr w.heap.size vv L∧Bytes L) (fun v _ _=>N-lenV v)
 case atStart=>exact⟨0,[],_,rfl,rfl,by simp,by simp,(Mod.refl _ _).alloc _,hown0,fun i=>by rw[nth_ge (by simp)];omega⟩
 case round=>
  obtain⟨k,L,vv,rfl,rfl,hk,hL,hm,hv,bL⟩:=hrel
  obtain⟨a,c,rfl⟩:=hv.slice.lit
  obtain⟨l,hl⟩:∃l,l=L.length:=⟨_,rfl⟩
  rw[←hl]at hk hL hv ⊢
  have HV:=hide (And.intro hv bL)
  have HLL:=hide hl
  clear hv bL hl
  by_cases hlt:l<N
  ·have g:(l:Int)<(N:Int):=by omega
   have ek:IntKind.i64.wrap ((k:Int)+1)=((k+1:Nat):Int):=by rw[IntKind.wrap_i64];omega
   have ho:Own Go.Proofs.YtfgmnbmnpihjdaaGreatDoor.u8 5 (wr.alloc (.cells #[] 5)) wr.heap.size (sl wr.heap.size 0 0 0) []:=Own.ofBlk (rest:=[]) (Nat.le_refl _) (Blk.new wr _ []) rfl (by simp[maxLen])
   have hs1:=(HS.out.1.mod hm (by simp)).mod ((Mod.refl [] wr).alloc (.cells #[] 5)) (by simp)
   go_wp2_with (at_builtin;refine wpl_appB rfl _ _ rfl _ _ rfl rfl ((Mod.refl [] wr).alloc _) ho hs1 (by simp;omega) ?_)
   intro v1 w1 hv1 hm1 _
   have hv2:=hv1.ints
   obtain⟨L1,hL1⟩:∃L1,L1=([]++S).map (fun n:Nat=>(n:Int)):=⟨_,rfl⟩
   have lL1:L1.length=S.length:=by rw[hL1];simp
   have bL1:ByI L1:=by rw[hL1,List.nil_append];exact ByI.ofBytes HS.out.2
   have hv2':OwnI v8 5 w1 wr.heap.size v1 L1:=by rw[hL1];simpa using hv2
   have HL1:=hide (And.intro lL1 bL1)
   clear ho hs1 hv1 hv2 hL1 lL1 bL1
   have hcU:∀j,j<4→(w1.alloc (.cells #[.int .u8 ((k:Int)/16777216),.int .u8 ((k:Int)/65536),.int .u8 ((k:Int)/256),.int .u8 ((k:Int)%256)] 5)).cell? ⟨w1.heap.size,0+j,none⟩=some (v8 (ith [(k:Int)/16777216,(k:Int)/65536,(k:Int)/256,(k:Int)%256] j)):=cells_newI w1 5 v8 [(k:Int)/16777216,(k:Int)/65536,(k:Int)/256,(k:Int)%256]
   have HU:=hide hcU
   have bU:ByI [(k:Int)/16777216,(k:Int)/65536,(k:Int)/256,(k:Int)%256]:=by intro z hz;simp only[List.mem_cons,List.not_mem_nil,or_false]at hz;omega
   have HBU:=hide bU
   clear hcU bU
   go_wp2_with (at_builtin;refine wpl_pushI rfl _ _ _ rfl v1 w1.heap.size 0 4 4 rfl rfl v8 rfl Tryz.underlying23 info_u8 (by omega) (fun _=>rfl) (hm1.alloc _) (hv2'.mod ((Mod.refl [] _).alloc _) (by simp)) rfl HU.out (by have:=HL1.out.1;omega) ?_)
   intro v2 w2 hv3 hm2
   obtain⟨L2,hL2⟩:∃L2,L2=L1++[(k:Int)/16777216,(k:Int)/65536,(k:Int)/256,(k:Int)%256]:=⟨_,rfl⟩
   have hb2:ByI L2:=by rw[hL2];exact HL1.out.2.append HBU.out
   have l2:L2.length=S.length+4:=by rw[hL2,List.length_append,HL1.out.1];rfl
   rw[←hL2]at hv3
   have CHH:=hide (CH.out v2 (L2.map Int.toNat) w2 (hv3.bytes hb2).sliceB hb2.bytes (by rw[List.length_map,l2];omega))
   obtain⟨a2,c2,rfl⟩:=hv3.lit
   clear hL2 hv3 hb2 hv2' hm1 l2
   go_wp2_with fail
   refine CHH.out.mono ?_
   rintro e w3 ⟨m3,v3,rfl,Lh,lh,bh,oh⟩
   have m13:Mod [] wr w3:=hm2.then1 m3
   have mw3:=hm.then1 m13
   have hv4:=HV.out.1.mod m13 (by simp)
   have hsh:=oh.sliceB
   have hszb:=mw3.size
   have HBH:=hide (And.intro lh bh)
   clear CHH lh bh oh m3 hm2 m13
   go_wp2_with (at_builtin;refine wpl_appB rfl _ _ rfl _ _ rfl rfl mw3 hv4 hsh (by have:=HBH.out.1;have:=HLL.out;omega) ?_)
   intro v5 w5 hv5 hm5 _
   obtain⟨a5,c5,hl5⟩:=hv5.slice.lit
   have HV5:=hide hv5
   have HL5:=hide hl5
   clear hv5 hl5 hv4 hsh mw3
   go_wp2_with fail
   go_roundw
   case rel=>exact⟨k+1,_,v5,rfl,by first|rfl|(simp[i64];done),by rw[List.length_append,←HLL.out,HBH.out.1];omega,by rw[List.length_append,←HLL.out,HBH.out.1];omega,hm5,HV5.out,bytes_append HV.out.2 HBH.out.2⟩
   case measure=>rw[HL5.out];simp only[lenV,List.length_append,←HLL.out,HBH.out.1];omega
  ·have g:¬(l:Int)<(N:Int):=by omega
   obtain⟨g1,cap,rest,e,hgb,hB,hcap,hmax⟩:∃g cap rest,(Value.slice a l c)=sl g 0 l cap∧w.heap.size≤g∧Blk wr g 5 (L.map Go.Proofs.YtfgmnbmnpihjdaaGreatDoor.u8++rest)∧l+rest.length=cap∧cap≤maxLen:=by
    rcases HV.out.1.blk with⟨_,h⟩|⟨g,cap,rest,h1,h2,h3,h4,h5⟩
    ·have:=HLL.out;rw[h]at this;simp at this;omega
    ·rw[←HLL.out]at h1 h4;exact⟨g,cap,rest,h1,h2,h3,h4,h5⟩
   simp only[Value.slice.injEq]at e
   obtain⟨rfl,_,rfl⟩:=e
   have gN:(N:Int)≤(c:Int):=by omega
   have c0:¬c=0:=by omega
   have HF:=hide (show ∀i,i<N→wr.cell? ⟨g1,i,none⟩=some (Go.Proofs.YtfgmnbmnpihjdaaGreatDoor.u8 (nth (L.take N) i))from fun i hi=>by
    have:=HLL.out
    rw[hB.cell,List.getElem?_append_left (by simp;omega),map_get (by omega),nth_take hi])
   have hlen:(L.take N).length=N:=by have:=HLL.out;rw[List.length_take];omega
   have HLN:=hide hlen
   clear hB hlen
   go_wp2_with fail
   go_ret
   exact⟨hm,g1,c,rfl,hgb,L.take N,HLN.out,fun i=>by by_cases h:i<N;rw[nth_take h];exact HV.out.2 i;rw[nth_ge (by rw[HLN.out];omega)];omega,by omega,HF.out⟩
set_option linter.all false
theorem zeroCells_u8(n:Nat):Builtin.zeroCells (Value.int .u8 0).cells n=(List.replicate n (Value.int .u8 0)).toArray:=by
 show Builtin.zeroCells #[Value.int .u8 0] n=_
 apply Array.ext'
 apply List.ext_getElem
 ·simp[Builtin.zeroCells]
 ·intro i h1 h2
  simp[Builtin.zeroCells,Nat.mod_one]
set_option maxRecDepth 100000 in
theorem zero_room(w:World)(ty g sLen sCap n:Nat)(hn:n≤1000000)(hroom:sLen+n≤sCap)(cur:Array Value)(e:Nat)(hg:w.heap[g]? = some (.cells cur e (0,0)))(hfit:sLen+n≤cur.size) :
 (Builtin.append_ #[23,3] ty #[.slice (some ⟨g,0,none⟩) sLen sCap,.int .i64 (n:Int)]).run Tryz.prog w=.ok (.slice (some ⟨g,0,none⟩) (sLen+n) sCap)
   (w.setRow g (cur.toList.take sLen++List.replicate n (Value.int .u8 0)++cur.toList.drop (sLen+n)).toArray):=by
 obtain⟨i,g1,g2,g3,g4⟩:=info_parts info_u8
 have hw:IntKind.i64.wrap (n:Int)=(n:Int):=IntWalk.i64_in _ (by omega)
 have h0:¬(n:Int)<0:=by omega
 have h1:¬(281474976710656:Int)<(n:Int):=by omega
 have hst:=run_storeCells_at Tryz.prog g sLen e (List.replicate n (Value.int .u8 0)) 0 cur w hg (by simpa using hfit) (by intro u hu;rw[(List.mem_replicate.1 hu).2];rfl)
 simp only[Nat.add_zero,List.length_replicate]at hst
 have hz:=zeroCells_u8 n
 by_cases hn0:n=0
 ·subst hn0
  have hw0:IntKind.i64.wrap (0:Int)=0:=by decide
  have hself:w.setRow g cur=w:=by simpa [storeCells]using hst.symm
  simp[Builtin.append_,hw0,run_underlying Tryz.underlying23,run_underlying Tryz.underlying3,sizeOf,typeInfo,g1,g2,g3,g4,asInt,asIntOf,show sLen≤sCap by omega,Addr.add_lit,storeCells,hself]
 ·have h2:¬(n:Int)≤0:=by omega
  simp[Builtin.append_,run_underlying Tryz.underlying23,run_underlying Tryz.underlying3,sizeOf,typeInfo,g1,g2,g3,g4,asInt,asIntOf,hw,h0,h1,h2,hn0,hroom,zeroValue,hz,Addr.add_lit,hst]
set_option maxRecDepth 100000 in
theorem zero_grow(w:World)(ty:Nat)(base:Option Addr)(sLen sCap n:Nat)(olds:List Value)(hn:sLen+n≤1000000)(hg:sCap<sLen+n)
 (hold:(Builtin.firstCells 1 sLen (.slice base sLen sCap)).run Tryz.prog w.drew=.ok olds.toArray w.drew) (hfit:Builtin.nextslicecap (sLen+n) sCap≤281474976710656) :
 (Builtin.append_ #[23,3] ty #[.slice base sLen sCap,.int .i64 (n:Int)]).run Tryz.prog w =
   .ok (.slice (some ⟨w.heap.size,0,none⟩) (sLen+n) (grownCap w (sLen+n) sCap 5))
    (w.drew.alloc (.cells ((olds++List.replicate n (Value.int .u8 0)).toArray++Builtin.zeroCells (Value.int .u8 0).cells (grownCap w (sLen+n) sCap 5-(sLen+n))) 5)):=by
 obtain⟨i,g1,g2,g3,g4⟩:=info_parts info_u8
 have hw:IntKind.i64.wrap (n:Int)=(n:Int):=IntWalk.i64_in _ (by omega)
 have h0:¬(n:Int)<0:=by omega
 have h1:¬(281474976710656:Int)<(n:Int):=by omega
 have hn':¬(sLen+n≤sCap):=by omega
 have h63':¬(9223372036854775807<((sLen:Int)+(n:Int))):=by omega
 have h48':¬(281474976710656<Builtin.nextslicecap (sLen+n) sCap):=by omega
 have hz:=zeroCells_u8 n
 by_cases hn0:n=0
 ·subst hn0
  have hw0:IntKind.i64.wrap (0:Int)=0:=by decide
  simp[Builtin.append_,hw0,run_underlying Tryz.underlying23,run_underlying Tryz.underlying3,sizeOf,typeInfo,zeroValue,g1,g2,g3,g4,asInt,asIntOf,show ¬sLen≤sCap by omega,show ¬(9223372036854775807<(sLen:Int))by omega,show ¬(281474976710656<Builtin.nextslicecap sLen sCap)by simpa using h48',Question.forced,hold,newRow,grownCap]
 ·have h2:¬(n:Int)≤0:=by omega
  simp[Builtin.append_,run_underlying Tryz.underlying23,run_underlying Tryz.underlying3,sizeOf,typeInfo,zeroValue,g1,g2,g3,g4,asInt,asIntOf,hw,h0,h1,h2,hn0,hn',h63',h48',hz,Question.forced,hold,newRow,grownCap]
  congr 2
  apply Array.ext'
  simp[List.append_assoc]
theorem run_zeros{w:World}{base:Nat}{v:Value}{L:List Nat}(hown:Own u8 5 w base v L)(h0:0<L.length)(n:Nat)(hn:L.length+n≤900000)(hb:base≤w.heap.size)(ty:Nat) :
 ∃v' w',(Builtin.append_ #[23,3] ty #[v,.int .i64 (n:Int)]).run Tryz.prog w=.ok v' w'∧Own u8 5 w' base v' (L++List.replicate n 0)∧Mod v.ownBlock.toList w w':=by
 rcases hown.blk with⟨rfl,rfl⟩|⟨g,cap,rest,rfl,hbg,hg,hc,hm⟩
 ·simp at h0
 ·by_cases hroom:L.length+n≤cap
  ·refine⟨_,_,zero_room w ty g L.length cap n (by omega) hroom _ _ hg (by simp;omega),?_,?_⟩
   ·have e:((L.map u8++rest).take L.length++List.replicate n (Value.int .u8 0)++(L.map u8++rest).drop (L.length+n))=(L++List.replicate n 0).map u8++rest.drop n:=by
     rw[List.take_append_of_le_length (by simp),List.take_of_length_le (by simp),List.drop_append,List.drop_eq_nil_of_le (by simp)]
     simp
    simp only[e]
    have:=hg.setRow ((L++List.replicate n 0).map u8++rest.drop n)
    have ho:=Own.ofBlk (k:=u8) (cap:=cap) hbg this (by simp;omega) hm
    simpa using ho
   ·exact(Mod.refl _ w).setRow _ _ (by simp[Value.ownBlock])
  ·have hfit:=nextslicecap_le (need:=L.length+n) (old:=cap) (by omega)
   have hold:(Builtin.firstCells 1 L.length (sl g 0 L.length cap)).run Tryz.prog w.drew=.ok (L.map u8).toArray w.drew:=
    run_firstCells_some (P:=Tryz.prog) w.drew 1 L.length ⟨g,0,none⟩ L.length cap (L.map u8) (by simp) (fun j x hj=>by
     rw[add_addr,Nat.zero_add]
     show w.cell? _=_
     have hl:=(List.getElem?_eq_some_iff.1 hj).1
     rw[hg.cell,List.getElem?_append_left hl,hj])
   refine⟨_,_,zero_grow w ty _ L.length cap n (L.map u8) (by omega) (by omega) hold (by omega),?_,?_⟩
   ·have hge:=grownCap_ge w (L.length+n) cap 5
    have hgm:=grownCap_le_maxLen w (L.length+n) cap 5 (by simp only[maxLen];omega)
    have hB:Blk (w.drew.alloc (.cells ((L.map u8++List.replicate n (Value.int .u8 0)).toArray++Builtin.zeroCells (Value.int .u8 0).cells (grownCap w (L.length+n) cap 5-(L.length+n))) 5)) w.heap.size 5
     ((L++List.replicate n 0).map u8++List.replicate (grownCap w (L.length+n) cap 5-(L.length+n)) (Value.int .u8 0)):=by
     rw[zeroCells_u8]
     have:=Blk.new w.drew 5 ((L++List.replicate n 0).map u8++List.replicate (grownCap w (L.length+n) cap 5-(L.length+n)) (Value.int .u8 0))
     have ea:(((L++List.replicate n 0).map u8++List.replicate (grownCap w (L.length+n) cap 5-(L.length+n)) (Value.int .u8 0)).toArray)=((L.map u8++List.replicate n (Value.int .u8 0)).toArray++(List.replicate (grownCap w (L.length+n) cap 5-(L.length+n)) (Value.int .u8 0)).toArray):=by
      apply Array.ext'
      simp
      exact List.replicate_append_replicate
     rw[←ea]
     exact this
    have ho:=Own.ofBlk (k:=u8) (cap:=grownCap w (L.length+n) cap 5) hb hB (by simp;omega) hgm
    simpa using ho
   ·exact((Mod.refl _ w).drew).alloc _
theorem wpl_zeros{ops:Array Oper}{rest:List Oper}{o:Oper}{a:Act}{Q:Exit→Act→World→Prop}{w:World}(hgd:o.guard=none)(s x:Operand)
 (ho:o.op=.call {callee:=.builtin .append,args:=#[s,x],argTypes:=#[23,3]}) (v:Value) (n:Nat) (hs:a.eval s=v) (hx:a.eval x=.int .i64 (n:Int))
 {w0:World} {L:List Nat} (hw:Mod [] w0 w) (hv:Own u8 5 w w0.heap.size v L) (h0:0<L.length) (hn:L.length+n≤900000)
 (h:∀v' w',Own u8 5 w' w0.heap.size v' (L++List.replicate n 0)→Mod [] w0 w'→wpList Tryz.prog ops Q rest (a.put o.dst v') w'):wpList Tryz.prog ops Q (o::rest) a w:=by
 obtain⟨v',w',hr,hown,hm⟩:=run_zeros hv h0 n hn hw.size o.type
 refine wpList_plain hgd fun K hK=>?_
 unfold Oper.wp execOp
 simp only[ho,resolve,invoke,builtin,Sem.run_bind,Sem.run_pure,Result.andThen_ok,List.map_toArray,List.map_cons,List.map_nil,hs,hx,hr]
 refine hK _ _ (h v' w' hown ?_)
 refine Mod.trans (U:=[]) hw hm (by simp) ?_
 intro y hy hlt
 simp at hy
 have:=(World.ownsRow.lt hv y hy).1
 omega
theorem bytes_noughts(z:Nat):Bytes (List.replicate z 0):=fun i=>by
 simp only[nth,List.getD_eq_getElem?_getD,List.getElem?_replicate]
 split<;>simp
set_option maxRecDepth 100000 in
theorem z_EncodedOAEP(n:Nat)(hn:n=28∨n=32∨n=48∨n=64)(vS vM vL:Value)(S M lab:List Nat)(k:Nat)(w:World)(hS:SliceB w vS S)(bS:Bytes S)(lS:S.length=n)
 (hM:SliceB w vM M) (bM:Bytes M) (lM:M.length≤200) (hL:SliceB w vL lab) (bL:Bytes lab) (lL:lab.length≤200) (hk:k≤1000) :
 Calls Tryz.prog 6 #[i64 (8*n),vS,vM,vL,i64 k] w fun e w'=>Mod [] w w'∧∃v b,e=.returned (.tuple #[v,.bool b])∧(b=true→M.length+2*n+2≤k∧∃E,SliceB w' v E∧Bytes E∧E.length=k):=by
 obtain⟨bS0,oS,cS,rfl,hcS,hSc⟩:∃b o c,vS=sl b o n c∧n≤c∧∀i,i<n→w.cell? ⟨b,o+i,none⟩=some (Go.Proofs.YtfgmnbmnpihjdaaGreatDoor.u8 (nth S i)):=by
  rcases hS with⟨_,h⟩|⟨a,c,_,h⟩|⟨b,o,c,h1,h2,h3⟩
  ·rw[h]at lS;simp at lS;omega
  ·rw[h]at lS;simp at lS;omega
  ·rw[lS]at h1 h2;exact⟨b,o,c,h1,h2,fun i hi=>h3 i (by omega)⟩
 obtain⟨aM,cM,rfl⟩:=SliceB.isSlice hM
 obtain⟨aL,cL,rfl⟩:=SliceB.isSlice hL
 have n28:28≤n∧n≤64:=by omega
 have CH:=hide (fun vd B w' (hd:SliceB w' vd B) (bB:Bytes B) (lB:B.length≤40000)=>z_Hash n hn vd B w' hd bB lB)
 have CK:=hide (fun vs Z N w' hs bZ lZ hN hN0=>z_Mask n hn vs Z N w' hs bZ lZ hN hN0)
 obtain⟨bits8,hb8⟩:∃b,b=8*n:=⟨_,rfl⟩
 rw[←hb8]at CH CK ⊢
 have eq8:wrap64 ((bits8:Int)/8)=(n:Int):=by unfold wrap64;omega
 have e2n:IntKind.i64.wrap (2*(n:Int))=((2*n:Nat):Int):=by rw[IntKind.wrap_i64];omega
 have HS:=hide (And.intro hS (And.intro bS hSc))
 have HM:=hide (And.intro hM bM)
 have HL:=hide (And.intro hL bL)
 have HB8:=hide hb8
 have HN:=hide n28
 clear hS bS hSc hM bM hL bL hn hb8
 by_cases hroom:M.length+2*n+2≤k
 ·obtain⟨z,hz⟩:∃z,k=M.length+2*n+2+z:=⟨k-(M.length+2*n+2),by omega⟩
  have g0:decide ((k:Int)-2*(n:Int)-2<(M.length:Int))=false:=by simp;omega
  have e40:(k:Int)-(M.length:Int)-2*(n:Int)-2=(z:Int):=by omega
  have HZ:=hide hz
  clear hz
  go_enter Tryz.func6,Tryz.ntmps6
  go_wp2_with fail
  refine(CH.out (.slice aL lab.length cL) lab w HL.out.1 HL.out.2 (by omega)).mono ?_
  rintro e w1 ⟨m1,v1,rfl,L1,l1,b1,o1⟩
  have o1':=hide o1
  go_wp2_with (at_builtin;refine wpl_zeros rfl _ _ rfl _ z rfl rfl m1 o1'.out (by omega) (by omega) ?_)
  intro v2 w2 o2 m2
  have bd2:Bytes (L1++List.replicate z 0):=bytes_append b1 (bytes_noughts z)
  have ld2:(L1++List.replicate z 0).length=n+z:=by rw[List.length_append,List.length_replicate,l1]
  obtain⟨D2,hD2⟩:∃D,D=L1++List.replicate z 0:=⟨_,rfl⟩
  rw[←hD2]at o2 bd2 ld2
  clear o1 o1' hD2 m1
  have o2I:=o2.ints
  have hs1:=(HM.out.1.mod m2 (by simp)).mod ((Mod.refl [] w2).alloc (.cells #[.int .u8 1] 5)) (by simp)
  have hcU:∀j,j<1→(w2.alloc (.cells #[.int .u8 1] 5)).cell? ⟨w2.heap.size,0+j,none⟩=some (v8 (ith [(1:Int)] j)):=cells_newI w2 5 v8 [(1:Int)]
  have HU:=hide hcU
  have HD:=hide (And.intro bd2 ld2)
  clear hcU bd2 ld2 o2
  go_wp2_with (at_builtin;refine wpl_pushI rfl _ _ _ rfl v2 w2.heap.size 0 1 1 rfl rfl v8 rfl Tryz.underlying23 info_u8 (by omega) (fun _=>rfl) (m2.alloc _) (o2I.mod ((Mod.refl [] _).alloc _) (by simp)) rfl HU.out (by rw[List.length_map];have:=HD.out.2;omega) ?_)
  intro v3 w3 o3 m3
  have bone:Bytes [1]:=by
   intro i
   rcases i with _|i
   ·show(1:Nat)<256
    omega
   ·rw[nth_ge (by simp)];omega
  have bD3:Bytes (D2++[1]):=bytes_append HD.out.1 bone
  clear bone
  have lD3:(D2++[1]).length=n+z+1:=by rw[List.length_append,HD.out.2];rfl
  have eD3:D2.map (fun n:Nat=>(n:Int))++[1]=(D2++[1]).map (fun n:Nat=>(n:Int)):=by simp
  rw[eD3]at o3
  have o3b:Own Go.Proofs.YtfgmnbmnpihjdaaGreatDoor.u8 5 w3 w.heap.size v3 (D2++[1]):=by
   have:=o3.bytes (ByI.ofBytes bD3)
   simpa [Function.comp_def]using this
  obtain⟨D3,hD3⟩:∃D,D=D2++[1]:=⟨_,rfl⟩
  rw[←hD3]at o3b bD3 lD3
  have hs3:=HM.out.1.mod m3 (by simp)
  have HD3:=hide (And.intro bD3 lD3)
  clear hs1 o3 eD3 hD3 bD3 lD3 o2I
  go_wp2_with (at_builtin;refine wpl_appB rfl _ _ rfl _ _ rfl rfl m3 o3b hs3 (by have:=HD3.out.2;omega) ?_)
  intro v4 w4 o4 m4 _
  have bD4:Bytes (D3++M):=bytes_append HD3.out.1 HM.out.2
  obtain⟨d,hd⟩:∃d,d=n+z+1+M.length:=⟨_,rfl⟩
  have lD4:(D3++M).length=d:=by rw[List.length_append,HD3.out.2,hd]
  obtain⟨D4,hD4⟩:∃D,D=D3++M:=⟨_,rfl⟩
  rw[←hD4]at o4 bD4 lD4
  have HDd:=hide hd
  have dk:d≤1000∧n<d:=by have:=HZ.out;omega
  obtain⟨g4,c4,hv4,hg4,hc4,hB4⟩:∃g c,v4=sl g 0 d c∧w.heap.size≤g∧d≤c∧∀i,i<d→w4.cell? ⟨g,0+i,none⟩=some (Go.Proofs.YtfgmnbmnpihjdaaGreatDoor.u8 (nth D4 i)):=by
   rcases o4.blk with⟨_,h⟩|⟨g,cap,rest,h1,h2,h3,h4,h5⟩
   ·rw[h]at lD4;simp at lD4;omega
   ·rw[lD4]at h1 h4
    refine⟨g,cap,h1,h2,by omega,fun i hi=>?_⟩
    rw[Nat.zero_add,h3.cell,List.getElem?_append_left (by simp;omega),map_get (by omega)]
  subst hv4
  have HB4:=hide (And.intro bD4 hB4)
  clear hs3 o3b hD4 hd lD4 bD4 hB4 o4 hg4
  have CK4:=hide (CK.out (sl bS0 oS n cS) S d w4 (HS.out.1.mod m4 (by simp)) HS.out.2.1 (by omega) (by omega) (by omega))
  go_wp2_with fail
  refine CK4.out.mono ?_
  rintro e w5 ⟨m5,g5,c5,rfl,hg5,B5,lB5,bB5,hc5,hB5⟩
  have hA5:∀i,i<d→w5.cell? ⟨g4,0+i,none⟩=some (Go.Proofs.YtfgmnbmnpihjdaaGreatDoor.u8 (nth D4 i)):=fun i hi=>cell_up0 (HB4.out.2 i hi) m5
  have hB5':∀i,i<d→w5.cell? ⟨g5,0+i,none⟩=some (Go.Proofs.YtfgmnbmnpihjdaaGreatDoor.u8 (nth B5 i)):=fun i hi=>by rw[Nat.zero_add];exact hB5 i hi
  have CM5:=hide (z_Mixed g4 0 c4 g5 0 c5 d D4 B5 w5 HB4.out.1 bB5 (by omega) hA5 d (Nat.le_refl _) hB5')
  clear CK4 lB5 bB5 hB5 hg5 hA5 hB5'
  go_wp2_with fail
  refine CM5.out.mono ?_
  rintro e w6 ⟨m6,v6,rfl,L6,lL6,bL6,o6⟩
  obtain⟨g6,c6,B6,rfl,lB6,bB6,hc6,o6b⟩:=o6.cut bL6 lL6 (by omega)
  have m46:=(m4.then1 m5).then1 m6
  have o6s:=(o6b.mod ((Mod.refl [] w6).alloc (.cells #[.int .u8 0] 5)) (by simp)).sliceB
  have CK7:=hide (CK.out (sl g6 0 d c6) B6 n (w6.alloc (.cells #[.int .u8 0] 5)) o6s bB6 (by omega) (by omega) (by omega))
  have hlt6:g6<w6.heap.size:=(o6b.lt _ _ _ _ rfl).2
  have HO6:=hide (And.intro (And.intro lB6 hlt6) (And.intro bB6 o6b))
  clear hlt6
  clear CM5 o6 bL6 lL6 o6s lB6 bB6 o6b m4 m5 m6
  go_wp2_with fail
  refine CK7.out.mono ?_
  rintro e w7 ⟨m7,g7,c7,rfl,hg7,B7,lB7,bB7,hc7,hB7⟩
  have m67:=((Mod.refl [] w6).alloc (.cells #[.int .u8 0] 5)).then1 m7
  have m17:=m46.then1 m67
  have hA7:∀i,i<n→w7.cell? ⟨bS0,oS+i,none⟩=some (Go.Proofs.YtfgmnbmnpihjdaaGreatDoor.u8 (nth S i)):=fun i hi=>cell_up0 (HS.out.2.2 i hi) m17
  have hB7':∀i,i<n→w7.cell? ⟨g7,0+i,none⟩=some (Go.Proofs.YtfgmnbmnpihjdaaGreatDoor.u8 (nth B7 i)):=fun i hi=>by rw[Nat.zero_add];exact hB7 i hi
  have CM7:=hide (z_Mixed bS0 oS cS g7 0 c7 n S B7 w7 HS.out.2.1 bB7 (by omega) hA7 n (Nat.le_refl _) hB7')
  clear CK7 lB7 bB7 hB7 hg7 hA7 hB7'
  go_wp2_with fail
  refine CM7.out.mono ?_
  rintro e w8 ⟨m8,v8',rfl,L8,lL8,bL8,o8⟩
  obtain⟨g8,c8,B8,rfl,lB8,bB8,hc8,o8b⟩:=o8.cut bL8 lL8 (by omega)
  have m68:=m67.then1 m8
  have m18:=m46.then1 m68
  have ho:Own Go.Proofs.YtfgmnbmnpihjdaaGreatDoor.u8 5 (w6.alloc (.cells #[.int .u8 0] 5)) w.heap.size (sl w6.heap.size 0 1 1) [0]:=Own.ofBlk (rest:=[]) m46.size (Blk.new w6 _ [.int .u8 0]) rfl (by simp[maxLen])
  have ho8:=ho.mod (m7.then1 m8) (by simp)
  have hx8:=o8b.sliceB
  have h68:=(HO6.out.2.2.mod m68 (by simp)).sliceB
  have l8:([0]++B8).length=n+1:=by rw[List.length_append,lB8];simp;omega
  have H8:=hide (And.intro l8 bB8)
  have HO8:=hide (And.intro ho8 (And.intro hx8 h68))
  have hmN:=hide (And.intro m18 m8)
  clear CM7 ho ho8 hx8 o8b o8 bL8 lL8 lB8 bB8 h68 l8 m7 m67 m17 m8 m68 m18
  go_wp2_with (at_builtin;refine wpl_appB rfl _ _ rfl _ _ rfl rfl hmN.out.1 HO8.out.1 HO8.out.2.1 (by have:=H8.out.1;rw[List.length_append]at this;omega) ?_)
  intro v9 w9 o9 m9 mo9
  have h69:=HO8.out.2.2.mod mo9 (by
   intro x hx b o n' c' e
   simp only[Value.slice.injEq,Option.some.injEq,Addr.mk.injEq]at e
   obtain⟨⟨rfl,_⟩,_⟩:=e
   simp[Value.ownBlock]at hx
   have:=HO6.out.1.2
   omega)
  have o9h:=hide o9
  clear mo9 o9 HO8
  go_wp2_with (at_builtin;refine wpl_appB rfl _ _ rfl _ _ rfl rfl m9 o9h.out h69 (by have h:=H8.out.1;have h':=HO6.out.1.1;simp only[List.length_append,List.length_cons,List.length_nil]at h ⊢;omega) ?_)
  intro v10 w10 o10 m10 _
  have hE:=bytes_append (bytes_append (show Bytes [0]from fun i=>by rcases i with _|i;(·show(0:Nat)<256;omega);(·rw[nth_ge (by simp)];omega)) H8.out.2) HO6.out.2.1
  have lE:(([0]++B8)++B6).length=k:=by rw[List.length_append,H8.out.1,HO6.out.1.1];have:=HZ.out;have:=HDd.out;omega
  have hsE:=o10.sliceB
  have HE:=hide (And.intro hE (And.intro lE hsE))
  clear hE lE hsE o10 o9h h69
  go_wp2_with fail
  go_ret2
  exact⟨m10,_,true,rfl,fun _=>⟨hroom,_,HE.out.2.2,HE.out.1,HE.out.2.1⟩⟩
 ·have g0:decide ((k:Int)-2*(n:Int)-2<(M.length:Int))=true:=by simp;omega
  go_enter Tryz.func6,Tryz.ntmps6
  go_wp2_with fail
  go_ret2
  exact⟨Mod.refl _ _,_,false,rfl,by intro h;cases h⟩
def dC(S:List Nat)(c:Nat):Nat→Nat
 |0=>c
 |k+1=>addHi (nth S k) (nth S k) (dC S c k)
def dW(S:List Nat)(c k:Nat):Nat:=addLo (nth S k) (nth S k) (dC S c k)
def dL(S X:List Nat)(c:Nat):Nat→List Nat
 |0=>X
 |k+1=>(dL S X c k).set k (dW S c k)
def eC(S M:List Nat)(c:Nat):Nat→Nat
 |0=>0
 |k+1=>subHi (dW S c k) (nth M k) (eC S M c k)
def eL(S M D:List Nat)(c:Nat):Nat→List Nat
 |0=>D
 |k+1=>(eL S M D c k).set k (subLo (dW S c k) (nth M k) (eC S M c k))
theorem dL_len(S X:List Nat)(c k:Nat):(dL S X c k).length=X.length:=by
 induction k with
 |zero=>rfl
 |succ k ih=>simp[dL,ih]
theorem eL_len(S M D:List Nat)(c k:Nat):(eL S M D c k).length=D.length:=by
 induction k with
 |zero=>rfl
 |succ k ih=>simp[eL,ih]
theorem dC_le{S:List Nat}(hS:Words S){c:Nat}(hc:c≤1)(k:Nat):dC S c k≤1:=by
 induction k with
 |zero=>exact hc
 |succ k ih=>exact addHi_le (hS.nth k) (hS.nth k) ih
theorem eC_le(S M:List Nat)(c k:Nat):eC S M c k≤1:=by
 cases k with
 |zero=>simp[eC]
 |succ k=>exact subHi_le _ _ _
theorem dW_lt(S:List Nat)(c k:Nat):dW S c k<W:=addLo_lt _ _ _
theorem dL_words{S X:List Nat}(hX:Words X)(c k:Nat):Words (dL S X c k):=by
 induction k with
 |zero=>exact hX
 |succ k ih=>exact ih.set _ (dW_lt _ _ _)
theorem eL_words{S M D:List Nat}(hD:Words D)(c k:Nat):Words (eL S M D c k):=by
 induction k with
 |zero=>exact hD
 |succ k ih=>exact ih.set _ (subLo_lt _ _ _)
theorem dL_at{S X:List Nat}(c k j:Nat)(h:k≤j):nth (dL S X c k) j=nth X j:=by
 induction k with
 |zero=>rfl
 |succ k ih=>rw[dL,nth_set_ne (by omega),ih (by omega)]
theorem eL_at{S M D:List Nat}(c k j:Nat)(h:k≤j):nth (eL S M D c k) j=nth D j:=by
 induction k with
 |zero=>rfl
 |succ k ih=>rw[eL,nth_set_ne (by omega),ih (by omega)]
theorem dL_val{S X:List Nat}(hl:S.length=X.length)(c:Nat):∀k,k≤X.length→val ((dL S X c k).take k)+W^k*dC S c k=2*val (S.take k)+c:=by
 intro k
 induction k with
 |zero=>intro _;simp[dC,val]
 |succ k ih=>
  intro hk
  have h1:=ih (by omega)
  have hlen:=dL_len S X c k
  rw[val_take_succ (by rw[dL_len];omega),val_take_succ (by omega)]
  simp only[dL,dC]
  rw[take_set_ge (Nat.le_refl _),nth_set_same (by omega),Nat.pow_succ]
  have h2:dW S c k+W*addHi (nth S k) (nth S k) (dC S c k)=nth S k+nth S k+dC S c k:=by
   unfold dW addLo addHi
   exact Nat.mod_add_div _ _
  generalize W^k=p at *
  generalize addHi (nth S k) (nth S k) (dC S c k)=hi at *
  generalize dW S c k=lo at *
  have h3:p*(lo+W*hi)=p*(nth S k+nth S k+dC S c k):=by rw[h2]
  simp only[Nat.mul_add,←Nat.mul_assoc]at h3
  omega
theorem dL_nth{S X:List Nat}(c:Nat):∀k j,j<k→k≤X.length→nth (dL S X c k) j=dW S c j:=by
 intro k
 induction k with
 |zero=>intro j h;omega
 |succ k ih=>
  intro j h hk
  simp only[dL]
  by_cases hj:j=k
  ·subst hj;rw[nth_set_same (by rw[dL_len];omega)]
  ·rw[nth_set_ne (Ne.symm hj),ih j (by omega) (by omega)]
theorem eL_val{S M D X:List Nat}(hM:Words M)(hl:M.length=X.length)(hd:D.length=X.length)(c:Nat):∀k,k≤X.length→val ((eL S M D c k).take k)+val (M.take k)=val ((dL S X c X.length).take k)+W^k*eC S M c k:=by
 intro k
 induction k with
 |zero=>intro _;simp[eC,val]
 |succ k ih=>
  intro hk
  have h1:=ih (by omega)
  have hlen:=eL_len S M D c k
  rw[val_take_succ (by rw[eL_len];omega),val_take_succ (by omega),val_take_succ (by rw[dL_len];omega),dL_nth c X.length k (by omega) (Nat.le_refl _)]
  simp only[eL,eC]
  rw[take_set_ge (Nat.le_refl _),nth_set_same (by omega),Nat.pow_succ]
  have h2:subLo (dW S c k) (nth M k) (eC S M c k)+nth M k+eC S M c k=dW S c k+W*subHi (dW S c k) (nth M k) (eC S M c k):=by
   have:=sub_eq (dW_lt S c k) (hM.nth k) (eC_le S M c k)
   omega
  generalize W^k=p at *
  generalize subHi (dW S c k) (nth M k) (eC S M c k)=hi at *
  generalize subLo (dW S c k) (nth M k) (eC S M c k)=lo at *
  have h3:p*(lo+nth M k+eC S M c k)=p*(dW S c k+W*hi):=by rw[h2]
  simp only[Nat.mul_add,←Nat.mul_assoc]at h3
  omega
theorem shift_round{S X D M:List Nat}{c:Nat}(hS:Words S)(hX:Words X)(hD:Words D)(hM:Words M)(l1:S.length=X.length)(l2:M.length=X.length)(l3:D.length=X.length)(hc:c≤1)(hlt:val S<val M) :
 Below' (selW (max (notB (eC S M c X.length)) (dC S c X.length)) (dL S X c X.length) (eL S M D c X.length)) M ∧
  val (selW (max (notB (eC S M c X.length)) (dC S c X.length)) (dL S X c X.length) (eL S M D c X.length))=(2*val S+c)%val M:=by
 have h1:=dL_val (X:=X) l1 c X.length (Nat.le_refl _)
 have h2:=eL_val (S:=S) (D:=D) hM l2 l3 c X.length (Nat.le_refl _)
 have e1:(dL S X c X.length).take X.length=dL S X c X.length:=List.take_of_length_le (by rw[dL_len];exact Nat.le_refl _)
 have e2:(eL S M D c X.length).take X.length=eL S M D c X.length:=List.take_of_length_le (by rw[eL_len];omega)
 have e3:S.take X.length=S:=List.take_of_length_le (by omega)
 have e4:M.take X.length=M:=List.take_of_length_le (by omega)
 rw[e1,e3]at h1
 rw[e1,e2,e4]at h2
 have b1:=val_lt (dL_words (S:=S) hX c X.length)
 have b2:=val_lt (eL_words (S:=S) (M:=M) hD c X.length)
 have b3:=val_lt hM
 rw[dL_len]at b1
 rw[eL_len,l3]at b2
 rw[l2]at b3
 have c1:=dC_le hS hc X.length
 have c2:=eC_le S M c X.length
 generalize hE:eC S M c X.length=ec at *
 generalize hDc:dC S c X.length=dc at *
 generalize W^X.length=p at *
 have hsum:2*val S+c<2*val M:=by omega
 have wX:=dL_words (S:=S) hX c X.length
 have wD:=eL_words (S:=S) (M:=M) hD c X.length
 have hlX:(dL S X c X.length).length=M.length:=by rw[dL_len];omega
 have hlD:(eL S M D c X.length).length=M.length:=by rw[eL_len];omega
 rcases (by omega:dc=0∨dc=1)with rfl|rfl
 ·rcases (by omega:ec=0∨ec=1)with rfl|rfl
  ·rw[show selW (max (notB 0) 0) (dL S X c X.length) (eL S M D c X.length)=eL S M D c X.length from rfl]
   have hv:val (eL S M D c X.length)=2*val S+c-val M:=by omega
   exact⟨⟨hlD,wD,by omega⟩,by rw[hv,Nat.mod_eq_sub_mod (by omega),Nat.mod_eq_of_lt (by omega)]⟩
  ·rw[show selW (max (notB 1) 0) (dL S X c X.length) (eL S M D c X.length)=dL S X c X.length from rfl]
   have hv:val (dL S X c X.length)=2*val S+c:=by omega
   exact⟨⟨hlX,wX,by omega⟩,by rw[hv,Nat.mod_eq_of_lt (by omega)]⟩
 ·have hsel:selW (max (notB ec) 1) (dL S X c X.length) (eL S M D c X.length)=eL S M D c X.length:=by
   unfold selW
   rw[if_neg (by omega)]
  rw[hsel]
  have hec:ec=1:=by
   rcases (by omega:ec=0∨ec=1)with rfl|rfl
   ·omega
   ·rfl
  subst hec
  have hv:val (eL S M D c X.length)=2*val S+c-val M:=by omega
  exact⟨⟨hlD,wD,by omega⟩,by rw[hv,Nat.mod_eq_sub_mod (by omega),Nat.mod_eq_of_lt (by omega)]⟩
end Go.Proofs.YtfgmnbmnpihjdaaGreatDoor
