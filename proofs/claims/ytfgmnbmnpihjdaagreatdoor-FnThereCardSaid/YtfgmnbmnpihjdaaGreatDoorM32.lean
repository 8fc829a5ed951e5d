/- Lemmas of mine for the walk and its plain laws: HzH Rdr Mgf -/
import Derived.Test.YtfgmnbmnpihjdaaGreatDoorM29
import Derived.Test.YtfgmnbmnpihjdaaGreatDoorM31
import Derived.Deep.DeepCutAuto
import Derived.Deep.RegionHeld3
set_option linter.all false
set_option exponentiation.threshold 7000000
set_option maxHeartbeats 4000000
namespace Go.Proofs.YtfgmnbmnpihjdaaGreatDoor
open Go.RowKit
theorem Own.take{k:Nat→Value}{T:Nat}{w:World}{base g n c j:Nat}{L:List Nat}(h:Own k T w base (sl g 0 n c) L)(hj:j≤n):Own k T w base (sl g 0 j c) (L.take j):=by
 rcases h.blk with⟨e,_⟩|⟨g',cap,rest,e,hb,hg,hc,hm⟩
 ·cases e
 ·simp only[Value.slice.injEq,Option.some.injEq,Addr.mk.injEq]at e
  obtain⟨⟨rfl,_⟩,rfl,rfl⟩:=e
  have hl:(L.take j).length=j:=by rw[List.length_take];omega
  have hB:Blk w g T ((L.take j).map k++((L.drop j).map k++rest)):=by
   rw[←List.append_assoc,←List.map_append,List.take_append_drop];exact hg
  have:=Own.ofBlk (cap:=c) hb hB (by rw[hl,List.length_append,List.length_map,List.length_drop];omega) hm
  rwa [hl]at this
set_option maxRecDepth 100000 in
theorem z_Blocks32(h:List Int)(lh:h.length=8)(vh:Value)(P:List Nat)(pb po pc:Nat)(w:World)(hh:SliceI v32 w vh h)(hp:∀i,i<P.length→w.cell? ⟨pb,po+i,none⟩=some (Go.Proofs.YtfgmnbmnpihjdaaGreatDoor.u8 (nth P i)))(hpc:P.length≤pc)(lP:P.length≤100000) :
 Calls Tryz.prog 43 #[vh,sl pb po P.length pc] w fun e w'=>Mod [] w w'∧∃v,e=.returned v∧∃L:List Int,L.length=8∧SliceI v32 w' v L:=by
 obtain⟨hb,ho,hc,rfl,h8,hcb⟩:=hh
 rw[lh]at h8 hcb ⊢
 obtain⟨N,hN⟩:∃N,N=P.length:=⟨_,rfl⟩
 rw[←hN]at hp hpc lP ⊢
 have HP:=hide hp
 have HN:=hide hN
 have HCB:=hide hcb
 clear hp hcb hN
 go_enter Tryz.func43,Tryz.ntmps43
 go_wp2_with fail
 go_loopw [0,1] (fun a p wr=>∃(t o n c2 hb ho hc:Nat) (H:List Int),a=sl hb ho 8 hc∧p=sl pb o n c2∧8≤hc∧n+t=N∧n≤c2∧(0<n→o=po+t)∧Mod [] w wr∧Hid (H.length=8∧∀i,i<8→wr.cell? ⟨hb,ho+i,none⟩=some (v32 (ith H i)))) (fun _ p _=>lenV p)
 case atStart=>exact⟨0,po,N,pc,hb,ho,hc,h,rfl,rfl,h8,by omega,hpc,fun _=>by omega,Mod.refl _ _,hide ⟨lh,HCB.out⟩⟩
 case round=>
  obtain⟨t,o,n,c2,hb',ho',hc',H,rfl,rfl,hc8,hnt,hnc,hot,hm,HH⟩:=hrel
  by_cases hn:64≤n
  ·have g:(64:Int)≤(n:Int):=by omega
   have g2:(64:Int)≤(c2:Int):=by omega
   have CB:=hide (z_Block32 H HH.out.1 hb' ho' hc' (P.drop t) pb o c2 wr hc8 HH.out.2 (fun i hi=>by rw[nth_drop,hot (by omega),Nat.add_assoc];exact cell_up0 (HP.out (t+i) (by omega)) hm) (by omega))
   have HOT:=hide hot
   have HNT:=hide (And.intro hnt hn)
   clear hot hnt hn
   go_wp2_with fail
   refine CB.out.mono ?_
   rintro e w1 ⟨m1,v1,rfl,L1,l1,o1⟩
   obtain⟨g1,c1,rfl,_,hc1,hc1b⟩:=o1.slice (by omega)
   rw[l1]at hc1 hc1b ⊢
   have HH1:Hid (L1.length=8∧∀i,i<8→w1.cell? ⟨g1,0+i,none⟩=some (v32 (ith L1 i))):=hide ⟨l1,fun i hi=>by rw[Nat.zero_add];exact hc1b i hi⟩
   have hm1:=hm.then1 m1
   clear o1 hc1b l1 m1 hm CB HH
   go_wp2_with fail
   all_goals go_roundw
   all_goals first
    |(show n-64<n;have:=HNT.out;omega)
    |skip
   by_cases hq:c2=64
   ·exact⟨t+64,o,n-64,c2-64,g1,0,c1,L1,rfl,by rw[if_pos hq],hc1,by have:=HNT.out;omega,by omega,fun h=>by omega,hm1,HH1⟩
   ·exact⟨t+64,o+64,n-64,c2-64,g1,0,c1,L1,rfl,by rw[if_neg hq],hc1,by have:=HNT.out;omega,by omega,fun h=>by have:=HNT.out;have:=HOT.out (by omega);omega,hm1,HH1⟩
  ·have g:¬(64:Int)≤(n:Int):=by omega
   go_wp2_with fail
   go_ret
   exact⟨hm,_,rfl,H,HH.out.1,hb',ho',hc',by rw[HH.out.1];rfl,by rw[HH.out.1];exact hc8,by rw[HH.out.1];exact HH.out.2⟩
set_option maxRecDepth 100000 in
theorem z_Blocks64(h:List Int)(lh:h.length=8)(vh:Value)(P:List Nat)(pb po pc:Nat)(w:World)(hh:SliceI v64 w vh h)(hp:∀i,i<P.length→w.cell? ⟨pb,po+i,none⟩=some (Go.Proofs.YtfgmnbmnpihjdaaGreatDoor.u8 (nth P i)))(hpc:P.length≤pc)(lP:P.length≤100000) :
 Calls Tryz.prog 46 #[vh,sl pb po P.length pc] w fun e w'=>Mod [] w w'∧∃v,e=.returned v∧∃L:List Int,L.length=8∧SliceI v64 w' v L:=by
 obtain⟨hb,ho,hc,rfl,h8,hcb⟩:=hh
 rw[lh]at h8 hcb ⊢
 obtain⟨N,hN⟩:∃N,N=P.length:=⟨_,rfl⟩
 rw[←hN]at hp hpc lP ⊢
 have HP:=hide hp
 have HN:=hide hN
 have HCB:=hide hcb
 clear hp hcb hN
 go_enter Tryz.func46,Tryz.ntmps46
 go_wp2_with fail
 go_loopw [0,1] (fun a p wr=>∃(t o n c2 hb ho hc:Nat) (H:List Int),a=sl hb ho 8 hc∧p=sl pb o n c2∧8≤hc∧n+t=N∧n≤c2∧(0<n→o=po+t)∧Mod [] w wr∧Hid (H.length=8∧∀i,i<8→wr.cell? ⟨hb,ho+i,none⟩=some (v64 (ith H i)))) (fun _ p _=>lenV p)
 case atStart=>exact⟨0,po,N,pc,hb,ho,hc,h,rfl,rfl,h8,by omega,hpc,fun _=>by omega,Mod.refl _ _,hide ⟨lh,HCB.out⟩⟩
 case round=>
  obtain⟨t,o,n,c2,hb',ho',hc',H,rfl,rfl,hc8,hnt,hnc,hot,hm,HH⟩:=hrel
  by_cases hn:128≤n
  ·have g:(128:Int)≤(n:Int):=by omega
   have g2:(128:Int)≤(c2:Int):=by omega
   have CB:=hide (z_Block64 H HH.out.1 hb' ho' hc' (P.drop t) pb o c2 wr hc8 HH.out.2 (fun i hi=>by rw[nth_drop,hot (by omega),Nat.add_assoc];exact cell_up0 (HP.out (t+i) (by omega)) hm) (by omega))
   have HOT:=hide hot
   have HNT:=hide (And.intro hnt hn)
   clear hot hnt hn
   go_wp2_with fail
   refine CB.out.mono ?_
   rintro e w1 ⟨m1,v1,rfl,L1,l1,o1⟩
   obtain⟨g1,c1,rfl,_,hc1,hc1b⟩:=o1.slice (by omega)
   rw[l1]at hc1 hc1b ⊢
   have HH1:Hid (L1.length=8∧∀i,i<8→w1.cell? ⟨g1,0+i,none⟩=some (v64 (ith L1 i))):=hide ⟨l1,fun i hi=>by rw[Nat.zero_add];exact hc1b i hi⟩
   have hm1:=hm.then1 m1
   clear o1 hc1b l1 m1 hm CB HH
   go_wp2_with fail
   all_goals go_roundw
   all_goals first
    |(show n-128<n;have:=HNT.out;omega)
    |skip
   by_cases hq:c2=128
   ·exact⟨t+128,o,n-128,c2-128,g1,0,c1,L1,rfl,by rw[if_pos hq],hc1,by have:=HNT.out;omega,by omega,fun h=>by omega,hm1,HH1⟩
   ·exact⟨t+128,o+128,n-128,c2-128,g1,0,c1,L1,rfl,by rw[if_neg hq],hc1,by have:=HNT.out;omega,by omega,fun h=>by have:=HNT.out;have:=HOT.out (by omega);omega,hm1,HH1⟩
  ·have g:¬(128:Int)≤(n:Int):=by omega
   go_wp2_with fail
   go_ret
   exact⟨hm,_,rfl,H,HH.out.1,hb',ho',hc',by rw[HH.out.1];rfl,by rw[HH.out.1];exact hc8,by rw[HH.out.1];exact HH.out.2⟩
theorem OwnI.cut{T:Nat}{w:World}{base:Nat}{v:Value}{L:List Int}(h:OwnI v8 T w base v L)(hL:ByI L){n:Nat}(hn:L.length=n)(h0:0<n):∃g c B,v=sl g 0 n c∧B.length=n∧Bytes B∧n≤c∧Own Go.Proofs.YtfgmnbmnpihjdaaGreatDoor.u8 T w base (sl g 0 n c) B:=by
 obtain⟨g,c,rfl,_,hc,_⟩:=h.slice (by omega)
 refine⟨g,c,L.map Int.toNat,by rw[hn],by rw[List.length_map];exact hn,hL.bytes,by omega,?_⟩
 have:=h.bytes hL
 rwa [hn]at this
set_option maxRecDepth 100000 in
theorem z_Hash(n:Nat)(hn:n=28∨n=32∨n=48∨n=64)(vd:Value)(B:List Nat)(w:World)(hd:SliceB w vd B)(bB:Bytes B)(lB:B.length≤40000) :
 Calls Tryz.prog 16 #[i64 (8*n),vd] w fun e w'=>Mod [] w w'∧∃v,e=.returned v∧∃L:List Nat,L.length=n∧Bytes L∧Own Go.Proofs.YtfgmnbmnpihjdaaGreatDoor.u8 5 w' w.heap.size v L:=by
 obtain⟨ad,cd,rfl⟩:=SliceB.isSlice hd
 rcases hn with rfl|rfl|rfl|rfl
 ·have CP:=hide (fun w' (m:Mod [] w w')=>z_Padded64 B (.slice ad B.length cd) w' (hd.mod m (by simp)) bB lB)
  clear hd bB lB
  go_enter Tryz.func16,Tryz.ntmps16
  go_wp2_with fail
  refine(z_Block 224 (by omega) w).mono ?_
  rintro e w1 ⟨rfl,rfl⟩
  go_wp2_with fail
  refine(CP.out _ (Mod.refl [] _)).mono ?_
  rintro e w2 ⟨m2,v2,rfl,L2,l2,l2b,l2c,b2,o2⟩
  obtain⟨gp,cp,P,rfl,lP,bP,hcp,oP⟩:=o2.cut b2 rfl l2c
  have HO:=hide oP
  have HLP:=hide lP
  clear o2 oP l2 b2
  go_wp2_with fail
  refine(z_Begin32 0 (.inl rfl) w2).mono ?_
  rintro e w3 ⟨m3,v3,rfl,L3,l3,o3⟩
  have HS3:=hide (o3.sliceI (by omega))
  have oP3:=HO.out.mod m3 (by simp)
  have hpc:∀i,i<P.length→w3.cell? ⟨gp,0+i,none⟩=some (Go.Proofs.YtfgmnbmnpihjdaaGreatDoor.u8 (nth P i)):=fun i hi=>by
   rcases oP3.blk with⟨e,_⟩|⟨g',cap,rest,e,_,hg,_,_⟩
   ·cases e
   ·simp only[Value.slice.injEq,Option.some.injEq,Addr.mk.injEq]at e
    obtain⟨⟨rfl,_⟩,_,rfl⟩:=e
    rw[Nat.zero_add,hg.cell,List.getElem?_append_left (by simpa using hi),map_get hi]
  have CB:=hide (z_Blocks32 L3 l3 v3 P gp 0 cp w3 HS3.out hpc (by omega) (by omega))
  rw[HLP.out]at CB
  have m13:=m2.then1 m3
  obtain⟨a3,c3,rfl⟩:=o3.lit
  rw[l3]at CB ⊢
  clear o3 hpc oP3 m2 m3
  go_wp2_with fail
  refine CB.out.mono ?_
  rintro e w4 ⟨m4,v4,rfl,L4,l4,s4⟩
  have m14:=m13.then1 m4
  have CW:=hide (z_Words32 L4 l4 v4 w4 s4)
  obtain⟨b4,o4,c4,rfl,_,_⟩:=s4
  rw[l4]at CW ⊢
  clear CB m13 m4 l4
  go_wp2_with fail
  refine CW.out.mono ?_
  rintro e w5 ⟨m5,v5,rfl,L5,l5,b5,o5'⟩
  obtain⟨g5,c5,B5,rfl,l5b,b5b,hc5,o5⟩:=o5'.cut b5 l5 (by omega)
  have m15:=m14.then1 m5
  have hs:=m14.size
  have o6:=(o5.take (j:=28) (by omega)).base hs
  have HO6:=hide o6
  have b6:Bytes (B5.take 28):=fun i=>by by_cases h:i<28;rw[nth_take h];exact b5b i;rw[nth_ge (by rw[List.length_take];omega)];omega
  have l6:(B5.take 28).length=28:=by rw[List.length_take,l5b];rfl
  clear o5 o5' o6 b5 CW l5
  go_wp2_with fail
  go_ret
  exact⟨m15,_,rfl,_,l6,b6,HO6.out⟩
 ·have CP:=hide (fun w' (m:Mod [] w w')=>z_Padded64 B (.slice ad B.length cd) w' (hd.mod m (by simp)) bB lB)
  clear hd bB lB
  go_enter Tryz.func16,Tryz.ntmps16
  go_wp2_with fail
  refine(z_Block 256 (by omega) w).mono ?_
  rintro e w1 ⟨rfl,rfl⟩
  go_wp2_with fail
  refine(CP.out _ (Mod.refl [] _)).mono ?_
  rintro e w2 ⟨m2,v2,rfl,L2,l2,l2b,l2c,b2,o2⟩
  obtain⟨gp,cp,P,rfl,lP,bP,hcp,oP⟩:=o2.cut b2 rfl l2c
  have HO:=hide oP
  have HLP:=hide lP
  clear o2 oP l2 b2
  go_wp2_with fail
  refine(z_Begin32 1 (.inr rfl) w2).mono ?_
  rintro e w3 ⟨m3,v3,rfl,L3,l3,o3⟩
  have HS3:=hide (o3.sliceI (by omega))
  have oP3:=HO.out.mod m3 (by simp)
  have hpc:∀i,i<P.length→w3.cell? ⟨gp,0+i,none⟩=some (Go.Proofs.YtfgmnbmnpihjdaaGreatDoor.u8 (nth P i)):=fun i hi=>by
   rcases oP3.blk with⟨e,_⟩|⟨g',cap,rest,e,_,hg,_,_⟩
   ·cases e
   ·simp only[Value.slice.injEq,Option.some.injEq,Addr.mk.injEq]at e
    obtain⟨⟨rfl,_⟩,_,rfl⟩:=e
    rw[Nat.zero_add,hg.cell,List.getElem?_append_left (by simpa using hi),map_get hi]
  have CB:=hide (z_Blocks32 L3 l3 v3 P gp 0 cp w3 HS3.out hpc (by omega) (by omega))
  rw[HLP.out]at CB
  have m13:=m2.then1 m3
  obtain⟨a3,c3,rfl⟩:=o3.lit
  rw[l3]at CB ⊢
  clear o3 hpc oP3 m2 m3
  go_wp2_with fail
  refine CB.out.mono ?_
  rintro e w4 ⟨m4,v4,rfl,L4,l4,s4⟩
  have m14:=m13.then1 m4
  have CW:=hide (z_Words32 L4 l4 v4 w4 s4)
  obtain⟨b4,o4,c4,rfl,_,_⟩:=s4
  rw[l4]at CW ⊢
  clear CB m13 m4 l4
  go_wp2_with fail
  refine CW.out.mono ?_
  rintro e w5 ⟨m5,v5,rfl,L5,l5,b5,o5'⟩
  obtain⟨g5,c5,B5,rfl,l5b,b5b,hc5,o5⟩:=o5'.cut b5 l5 (by omega)
  have m15:=m14.then1 m5
  have hs:=m14.size
  have o6:=(o5).base hs
  have HO6:=hide o6
  have b6:Bytes (B5):=b5b
  have l6:(B5).length=32:=l5b
  clear o5 o5' o6 b5 CW l5
  go_wp2_with fail
  go_ret
  exact⟨m15,_,rfl,_,l6,b6,HO6.out⟩
 ·have CP:=hide (fun w' (m:Mod [] w w')=>z_Padded128 B (.slice ad B.length cd) w' (hd.mod m (by simp)) bB lB)
  clear hd bB lB
  go_enter Tryz.func16,Tryz.ntmps16
  go_wp2_with fail
  refine(z_Block 384 (by omega) w).mono ?_
  rintro e w1 ⟨rfl,rfl⟩
  go_wp2_with fail
  refine(CP.out _ (Mod.refl [] _)).mono ?_
  rintro e w2 ⟨m2,v2,rfl,L2,l2,l2b,l2c,b2,o2⟩
  obtain⟨gp,cp,P,rfl,lP,bP,hcp,oP⟩:=o2.cut b2 rfl l2c
  have HO:=hide oP
  have HLP:=hide lP
  clear o2 oP l2 b2
  go_wp2_with fail
  refine(z_Begin64 2 (.inl rfl) w2).mono ?_
  rintro e w3 ⟨m3,v3,L3,rfl,l3,o3⟩
  have HS3:=hide (o3.sliceI (by omega))
  have oP3:=HO.out.mod m3 (by simp)
  have hpc:∀i,i<P.length→w3.cell? ⟨gp,0+i,none⟩=some (Go.Proofs.YtfgmnbmnpihjdaaGreatDoor.u8 (nth P i)):=fun i hi=>by
   rcases oP3.blk with⟨e,_⟩|⟨g',cap,rest,e,_,hg,_,_⟩
   ·cases e
   ·simp only[Value.slice.injEq,Option.some.injEq,Addr.mk.injEq]at e
    obtain⟨⟨rfl,_⟩,_,rfl⟩:=e
    rw[Nat.zero_add,hg.cell,List.getElem?_append_left (by simpa using hi),map_get hi]
  have CB:=hide (z_Blocks64 L3 l3 v3 P gp 0 cp w3 HS3.out hpc (by omega) (by omega))
  rw[HLP.out]at CB
  have m13:=m2.then1 m3
  obtain⟨a3,c3,rfl⟩:=o3.lit
  rw[l3]at CB ⊢
  clear o3 hpc oP3 m2 m3
  go_wp2_with fail
  refine CB.out.mono ?_
  rintro e w4 ⟨m4,v4,rfl,L4,l4,s4⟩
  have m14:=m13.then1 m4
  have CW:=hide (z_Words64 L4 l4 v4 w4 s4)
  obtain⟨b4,o4,c4,rfl,_,_⟩:=s4
  rw[l4]at CW ⊢
  clear CB m13 m4 l4
  go_wp2_with fail
  refine CW.out.mono ?_
  rintro e w5 ⟨m5,v5,rfl,L5,l5,b5,o5'⟩
  obtain⟨g5,c5,B5,rfl,l5b,b5b,hc5,o5⟩:=o5'.cut b5 l5 (by omega)
  have m15:=m14.then1 m5
  have hs:=m14.size
  have o6:=(o5.take (j:=48) (by omega)).base hs
  have HO6:=hide o6
  have b6:Bytes (B5.take 48):=fun i=>by by_cases h:i<48;rw[nth_take h];exact b5b i;rw[nth_ge (by rw[List.length_take];omega)];omega
  have l6:(B5.take 48).length=48:=by rw[List.length_take,l5b];rfl
  clear o5 o5' o6 b5 CW l5
  go_wp2_with fail
  go_ret
  exact⟨m15,_,rfl,_,l6,b6,HO6.out⟩
 ·have CP:=hide (fun w' (m:Mod [] w w')=>z_Padded128 B (.slice ad B.length cd) w' (hd.mod m (by simp)) bB lB)
  clear hd bB lB
  go_enter Tryz.func16,Tryz.ntmps16
  go_wp2_with fail
  refine(z_Block 512 (by omega) w).mono ?_
  rintro e w1 ⟨rfl,rfl⟩
  go_wp2_with fail
  refine(CP.out _ (Mod.refl [] _)).mono ?_
  rintro e w2 ⟨m2,v2,rfl,L2,l2,l2b,l2c,b2,o2⟩
  obtain⟨gp,cp,P,rfl,lP,bP,hcp,oP⟩:=o2.cut b2 rfl l2c
  have HO:=hide oP
  have HLP:=hide lP
  clear o2 oP l2 b2
  go_wp2_with fail
  refine(z_Begin64 3 (.inr rfl) w2).mono ?_
  rintro e w3 ⟨m3,v3,L3,rfl,l3,o3⟩
  have HS3:=hide (o3.sliceI (by omega))
  have oP3:=HO.out.mod m3 (by simp)
  have hpc:∀i,i<P.length→w3.cell? ⟨gp,0+i,none⟩=some (Go.Proofs.YtfgmnbmnpihjdaaGreatDoor.u8 (nth P i)):=fun i hi=>by
   rcases oP3.blk with⟨e,_⟩|⟨g',cap,rest,e,_,hg,_,_⟩
   ·cases e
   ·simp only[Value.slice.injEq,Option.some.injEq,Addr.mk.injEq]at e
    obtain⟨⟨rfl,_⟩,_,rfl⟩:=e
    rw[Nat.zero_add,hg.cell,List.getElem?_append_left (by simpa using hi),map_get hi]
  have CB:=hide (z_Blocks64 L3 l3 v3 P gp 0 cp w3 HS3.out hpc (by omega) (by omega))
  rw[HLP.out]at CB
  have m13:=m2.then1 m3
  obtain⟨a3,c3,rfl⟩:=o3.lit
  rw[l3]at CB ⊢
  clear o3 hpc oP3 m2 m3
  go_wp2_with fail
  refine CB.out.mono ?_
  rintro e w4 ⟨m4,v4,rfl,L4,l4,s4⟩
  have m14:=m13.then1 m4
  have CW:=hide (z_Words64 L4 l4 v4 w4 s4)
  obtain⟨b4,o4,c4,rfl,_,_⟩:=s4
  rw[l4]at CW ⊢
  clear CB m13 m4 l4
  go_wp2_with fail
  refine CW.out.mono ?_
  rintro e w5 ⟨m5,v5,rfl,L5,l5,b5,o5'⟩
  obtain⟨g5,c5,B5,rfl,l5b,b5b,hc5,o5⟩:=o5'.cut b5 l5 (by omega)
  have m15:=m14.then1 m5
  have hs:=m14.size
  have o6:=(o5).base hs
  have HO6:=hide o6
  have b6:Bytes (B5):=b5b
  have l6:(B5).length=64:=l5b
  clear o5 o5' o6 b5 CW l5
  go_wp2_with fail
  go_ret
  exact⟨m15,_,rfl,_,l6,b6,HO6.out⟩
def putS(E S:List Nat)(o:Nat):List Nat:=E.take o++S++E.drop (o+S.length)
theorem putS_length{E S:List Nat}{o:Nat}(h:o+S.length≤E.length):(putS E S o).length=E.length:=by simp[putS];omega
theorem putS_row(k:Nat→Value)(E S:List Nat)(o:Nat):splice' (E.map k) (S.map k) o=(putS E S o).map k:=by simp[splice',putS,List.map_take,List.map_drop]
theorem nth_putS{E S:List Nat}{o j:Nat}(h:o+S.length≤E.length)(_:j<E.length):nth (putS E S o) j=if o≤j∧j<o+S.length then nth S (j-o)else nth E j:=by
 have l1:(E.take o).length=o:=by rw[List.length_take];omega
 unfold putS
 by_cases h1:j<o
 ·rw[if_neg (by omega),List.append_assoc,nth_append_left (by omega),nth_take h1]
 ·by_cases h2:j<o+S.length
  ·rw[if_pos (by omega),nth_append_left (by rw[List.length_append];omega),nth_append_right (by omega),l1]
  ·rw[if_neg (by omega),nth_append_right (by rw[List.length_append];omega),List.length_append,l1,nth_drop]
   congr 1;omega
set_option maxRecDepth 100000 in
theorem c_inc(b k:Nat)(w:World)(hb:Blk w b 151 ([0,0,0,k].map u8))(hk:k<255) :
 Calls Tryz.prog 83 #[ptr b] w fun e w'=>e=.returned (.tuple #[])∧Mod [b] w w'∧Blk w' b 151 ([0,0,0,k+1].map u8):=by
 have c3:=hb.at 3 (by simp)
 have f3:=hb.frozen 3
 have hw:IntKind.u8.wrap ((k:Int)+1)=((k+1:Nat):Int):=by rw[IntKind.wrap_u8];omega
 obtain⟨w1,hw1⟩:∃w1,w1=(w.setCell ⟨b,3,none⟩ (.int .u8 ((k:Int)+1))).drew:=⟨_,rfl⟩
 have hb1:Blk w1 b 151 ([0,0,0,k+1].map u8):=by rw[hw1];exact(hb.set 3 (k+1)).drew
 have m1:Mod [b] w w1:=by rw[hw1];exact((Mod.refl [b] w).setCell _ _ (by simp)).drew
 have d3:=hb1.at 3 (by simp)
 have c3':w.cell? ⟨b,3,none⟩=some (u8 k):=c3
 have d3':w1.cell? ⟨b,3,none⟩=some (u8 (k+1)):=d3
 have hne:¬((k+1:Nat):Int)=0:=by omega
 clear c3 d3 hb hk
 go_enter Tryz.func83,Tryz.ntmps83
 go_wp2_with fail
 go_region_with (fail)
 all_goals
  rw[←hw1]
  clear hw1 c3' f3
  go_wp2_with fail
  refine bodyPost_ret (results_none rfl _ _ _) rfl ?_
  exact⟨rfl,m1,hb1⟩
set_option maxRecDepth 100000 in
theorem c_NewReader(a:Option Addr)(n c:Nat)(w:World) :
 Calls Tryz.prog 25 #[.slice a n c] w fun e w'=>e=.returned (ptr w.heap.size)∧Mod [] w w'∧Blk w' w.heap.size 113 [.slice a n c,.int .i64 0,.int .i64 (-1)]:=by
 go_enter Tryz.func25,Tryz.ntmps25
 go_wp2_with fail
 go_ret
 exact⟨rfl,(Mod.refl [] w).alloc _,Blk.new w _ _⟩
set_option maxRecDepth 100000 in
theorem c_Read(r sb so c b o c2 n:Nat)(S E:List Nat)(w:World)(hn:S.length=n)(hr:Blk w r 113 [sl sb so n c,.int .i64 0,.int .i64 (-1)])
 (hs:∀i,i<n→w.cell? ⟨sb,so+i,none⟩=some (u8 (nth S i))) (hb:Blk w b 5 (E.map u8)) (hl:o+n≤E.length) (h0:0<n) (h1:n≤100000) (hbr:b≠r) (hsr:sb≠r) (_:n≤c) :
 Calls Tryz.prog 172 #[ptr r,sl b o n c2] w fun e w'=>e=.returned (.tuple #[i64 n,.nilIface])∧Mod [r,b] w w'∧Blk w' b 5 ((putS E S o).map u8):=by
 have q0:w.cell? ⟨r,0,none⟩=some (sl sb so n c):=by rw[hr.cell];rfl
 have q1:w.cell? ⟨r,1,none⟩=some (.int .i64 0):=by rw[hr.cell];rfl
 have q2:w.cell? ⟨r,2,none⟩=some (.int .i64 (-1)):=by rw[hr.cell];rfl
 have f2:=hr.frozen 2
 have g1:¬(n:Int)≤0:=by omega
 have HS:=hide hs
 clear hs
 go_enter Tryz.func172,Tryz.ntmps172
 go_upto_region 1 with fail
 go_quiet (fail)
 have hs:=HS.out
 obtain⟨w1,hw1⟩:∃w1,w1=(w.drewN nq).setCell ⟨r,2,none⟩ (.int .i64 (-1)):=⟨_,rfl⟩
 have hr1:Blk w1 r 113 [sl sb so n c,.int .i64 0,.int .i64 (-1)]:=by rw[hw1];exact(hr.drewN nq).setCell 2 (.int .i64 (-1))
 have m1:Mod [r,b] w w1:=by rw[hw1];exact((Mod.refl [r,b] w).drewN nq).setCell _ _ (by simp)
 have m1':Mod [r] w w1:=by rw[hw1];exact((Mod.refl [r] w).drewN nq).setCell _ _ (by simp)
 have hb1:=hb.mod m1' (by simpa using hbr)
 obtain⟨w2,hw2⟩:∃w2,w2=w1.drew.setRow b ((putS E S o).map u8).toArray:=⟨_,rfl⟩
 have hcp:∀ty,(Builtin.copy_ #[23,23] ty #[sl b o n c2,sl sb so n c]).run Tryz.prog w1.drew=.ok (goInt n) w2:=fun ty=>by
  have h:=run_copy_cells (P:=Tryz.prog) (t':=23) (ty:=ty) Tryz.underlying23 size_u8 hb1.drew o n c2 ⟨sb,so,none⟩ n c (us:=S.map u8) (by rw[List.length_map,hn];exact(Nat.min_self _).symm)
   (fun j v hj=>by
     have hjl:j<S.length:=by simpa using(List.getElem?_eq_some_iff.1 hj).1
     rw[map_get hjl]at hj
     rw[add_addr,cell_off (hs j (by omega)) m1'.drew (by simpa using hsr)]
     exact hj) (by rw[List.length_map,List.length_map,hn];exact hl) (oneCell_map u8 (fun _=>rfl) _)
  rw[List.length_map,hn,putS_row,←hw2]at h
  exact h
 have hb2:Blk w2 b 5 ((putS E S o).map u8):=by
  rw[hw2,←putS_row]
  exact hb1.drew.splice (S.map u8) o
 have hr2:Blk w2 r 113 [sl sb so n c,.int .i64 0,.int .i64 (-1)]:=by
  rw[hw2];exact hr1.drew.mod ((Mod.refl [b] _).setRow b _ (by simp)) (by simpa using fun h=>hbr h.symm)
 have m2:Mod [r,b] w w2:=by rw[hw2];exact m1.drew.setRow _ _ (by simp)
 have z0:w1.cell? ⟨r,0,none⟩=some (sl sb so n c):=by rw[hr1.cell];rfl
 have z1:w1.cell? ⟨r,1,none⟩=some (.int .i64 0):=by rw[hr1.cell];rfl
 have y0:w2.cell? ⟨r,0,none⟩=some (sl sb so n c):=by rw[hr2.cell];rfl
 have y1:w2.cell? ⟨r,1,none⟩=some (.int .i64 0):=by rw[hr2.cell];rfl
 have x1:=hr2.frozen 1
 have e1:IntKind.i64.wrap (n:Int)=(n:Int):=IntWalk.i64_in _ (by omega)
 have hb3:Blk (w2.setCell ⟨r,1,none⟩ (i64 n)) b 5 ((putS E S o).map u8):=hb2.setCell_other _ _ hbr
 have m3:Mod [r,b] w (w2.setCell ⟨r,1,none⟩ (i64 n)):=m2.setCell _ _ (by simp)
 clear hs hb hr hb1 hr1 m1 m1' hb2 hr2 m2 hw2 hn
 clear q0 q1
 go_upto_region 4 with fail
 rw[←hw1]
 clear hw1 q2 f2
 go_region_held3 (fun w'=>w'.cell? ⟨r,0,none⟩=some (sl sb so n c)∧w'.cell? ⟨r,1,none⟩=some (.int .i64 0)) (first|exact⟨z0,z1⟩|exact⟨y0,y1⟩) (fail)
 go_wp2_with fail
 go_ret2
 exact⟨rfl,m3,hb3⟩
set_option maxRecDepth 100000 in
theorem c_ReadAtLeast(r sb so c b o c2 n:Nat)(S E:List Nat)(w:World)(hn:S.length=n)(hr:Blk w r 113 [sl sb so n c,.int .i64 0,.int .i64 (-1)])
 (hs:∀i,i<n→w.cell? ⟨sb,so+i,none⟩=some (u8 (nth S i))) (hb:Blk w b 5 (E.map u8)) (hl:o+n≤E.length) (h0:0<n) (h1:n≤100000) (hbr:b≠r) (hsr:sb≠r) (hc:n≤c) (hc2:n≤c2) :
 Calls Tryz.prog 109 #[.iface 65 (ptr r),sl b o n c2,i64 n] w fun e w'=>e=.returned (.tuple #[i64 n,.nilIface])∧Mod [r,b] w w'∧Blk w' b 5 ((putS E S o).map u8):=by
 have CR:=hide (fun w' (m:Mod [] w w')=>c_Read r sb so c b o c2 n S E w' hn (hr.mod m (by simp)) (fun i hi=>cell_up0 (hs i hi) m) (hb.mod m (by simp)) hl h0 h1 hbr hsr hc)
 have nR:∀(w:World),(nilAhead 343 65 (ptr r) "Read").run Tryz.prog w=.ok (some false) w:=fun _=>by kernel_rfl
 have mR:∀(w:World),(method 343 65 (ptr r) "Read").run Tryz.prog w=.ok (172,ptr r) w:=fun _=>by kernel_rfl
 have hpos:(0:Int)<(n:Int):=by omega
 have hz:¬n=0:=by omega
 clear hr hs hb hn hsr hbr
 go_enter Tryz.func109,Tryz.ntmps109
 go_wp2_with fail
 go_loopw [6,7] (fun a e wr=>e=.nilIface∧((a=i64 0∧wr=w)∨(a=i64 n∧Mod [r,b] w wr∧Blk wr b 5 ((putS E S o).map u8)))) (fun a _ _=>n-(intOf a).toNat)
 case atStart=>exact⟨rfl,.inl ⟨rfl,rfl⟩⟩
 case round=>
  obtain⟨rfl,⟨rfl,rfl⟩|⟨rfl,m,hB⟩⟩:=hrel
  ·go_wp2_with fail
   go_region_with (go_at_call 172;refine(CR.out _ (Mod.refl [] _).drew).mono ?_;rintro e w1 ⟨rfl,m1,hB1⟩)
   have m2:=(Mod.refl [r,b] wr).drew.trans m1 (fun _ h _=>h) (fun _ h _=>h)
   go_wp2_with fail
   go_roundw
   case rel=>exact⟨rfl,.inr ⟨rfl,m2,hB1⟩⟩
   case measure=>simp[intOf];omega
  ·go_wp2_with fail
   go_ret2
   exact⟨rfl,m,hB⟩
set_option maxRecDepth 100000 in
theorem c_readFull(r sb so c b o c2 n:Nat)(S E:List Nat)(w:World)(hn:S.length=n)(hr:Blk w r 113 [sl sb so n c,.int .i64 0,.int .i64 (-1)])
 (hs:∀i,i<n→w.cell? ⟨sb,so+i,none⟩=some (u8 (nth S i))) (hb:Blk w b 5 (E.map u8)) (hl:o+n≤E.length) (h0:0<n) (h1:n≤100000) (hbr:b≠r) (hsr:sb≠r) (hc:n≤c) (hc2:n≤c2) :
 Calls Tryz.prog 57 #[.iface 65 (ptr r),sl b o n c2] w fun e w'=>e=.returned .nilIface∧Mod [r,b] w w'∧Blk w' b 5 ((putS E S o).map u8):=by
 have CR:=hide (c_ReadAtLeast r sb so c b o c2 n S E w hn hr hs hb hl h0 h1 hbr hsr hc hc2)
 have CF:Hid (Calls Tryz.prog 82 #[.iface 65 (ptr r),sl b o n c2] w fun e w'=>e=.returned (.tuple #[i64 n,.nilIface])∧Mod [r,b] w w'∧Blk w' b 5 ((putS E S o).map u8)):=by
  refine hide ?_
  clear hn hr hs hb hl h0 h1 hbr hsr hc hc2
  go_enter Tryz.func82,Tryz.ntmps82
  go_wp2_with fail
  refine CR.out.mono ?_
  rintro e w1 ⟨rfl,m1,h1⟩
  go_wp2_with fail
  go_ret2
  exact⟨rfl,m1,h1⟩
 clear hn hr hs hb hl h0 h1 hbr hsr hc hc2 CR
 go_enter Tryz.func57,Tryz.ntmps57
 go_wp2_with fail
 refine CF.out.mono ?_
 rintro e w1 ⟨rfl,m1,h1⟩
 go_wp2_with fail
 go_ret
 exact⟨rfl,m1,h1⟩
set_option maxRecDepth 100000 in
theorem zero_slice{w:World}{base:Nat}{v:Value}{L:List Nat}(h:Own Go.Proofs.YtfgmnbmnpihjdaaGreatDoor.u8 5 w base v L):∃a n c v0,v=.slice a n c∧(∀u,(Instr.sliceAt 23 (.slice a n c) none (some (.int .i64 0)) none).run Tryz.prog u=.ok v0 u)∧Own Go.Proofs.YtfgmnbmnpihjdaaGreatDoor.u8 5 w base v0 []∧(∀k,k∈v0.ownBlock.toList→base≤k∧k<w.heap.size):=by
 have hs:=fun u=>run_sizeOf u (Option.map_eq_some_iff.1 size_u8).choose_spec.1
 rcases h.blk with⟨rfl,rfl⟩|⟨g,cap,rest,rfl,hb,hg,hc,hm⟩
 ·refine⟨none,0,0,.slice none 0 0,rfl,fun u=>?_,Own.nil _ _ _ _,by simp[Value.ownBlock]⟩
  rw[run_sliceAt_slice (h:=Tryz.underlying23),run_slice_h (ht:=Tryz.underlying23) (kh:=.i64) (h:=0) (h0:=by omega) (h2:=by omega)]
  rw[show Tryz.prog.elem 23=5 by kernel_rfl,hs]
  simp[Result.andThen,sliced]
 ·have hv:=h
  refine⟨some ⟨g,0,none⟩,L.length,cap,sl g 0 0 cap,rfl,fun u=>?_,hv.zero,?_⟩
  ·rw[run_sliceAt_slice (h:=Tryz.underlying23),run_slice_h (ht:=Tryz.underlying23) (kh:=.i64) (h:=0) (h0:=by omega) (h2:=by omega)]
   rw[show Tryz.prog.elem 23=5 by kernel_rfl,hs]
   simp[Result.andThen,sliced,add_addr]
  ·intro k hk
   simp[Value.ownBlock]at hk
   subst hk
   exact⟨hb,hg.lt⟩
theorem xor_u8{a b:Nat}(ha:a<256)(hb:b<256):bits .xor .u8 (a:Int) (b:Int)=((a ^^^ b:Nat):Int):=by
 have e1:∀n:Nat,n<256→(BitVec.ofInt 8 (n:Int)).toNat=n:=fun n h=>by
  rw[BitVec.ofInt_natCast,BitVec.toNat_ofNat];exact Nat.mod_eq_of_lt (by omega)
 have h8:a ^^^ b<2^8:=Nat.xor_lt_two_pow ha hb
 show IntKind.u8.wrap ((BitVec.ofInt 8 (a:Int) ^^^ BitVec.ofInt 8 (b:Int)).toNat:Int)=_
 rw[BitVec.toNat_xor,e1 a ha,e1 b hb,IntKind.wrap_u8]
 omega
set_option maxRecDepth 100000 in
theorem run_arr4(b:Nat)(u:World):(Instr.sliceAt 151 (.pointer (some ⟨b,0,none⟩)) (some (.int .i64 0)) (some (.int .i64 4)) none).run Tryz.prog u=.ok (sl b 0 4 4) u:=by
 rw[run_sliceAt_array_lh u 151 ⟨b,0,none⟩ Tryz.underlying151 .i64 .i64 0 4 (by omega) (by omega) (by rw[show Tryz.prog.arrayLen 151=4 by kernel_rfl];omega),show Tryz.prog.arrayLen 151=4 by kernel_rfl,
  show Tryz.prog.elem 151=5 by kernel_rfl,run_sizeOf u (Option.map_eq_some_iff.1 size_u8).choose_spec.1]
 simp only[Result.andThen_ok,slicedAt,add_addr]
 rfl
def mgfT(n N q:Nat):Nat:=min (q*n) N
set_option maxRecDepth 100000 in
theorem c_mgf{ty fR fW fS fZ kb n:Nat}{AT:World→Nat→List Nat→Prop}{H:List Nat→List Nat}(MK:MethK ty fR fW fS fZ)(HC:HashC fR fW fS fZ kb AT H n)
 (d b oo N c1 so m c2:Nat) (E M0:List Nat) (w:World) (hD:AT w d M0) (hb:Blk w b 5 (E.map u8)) (hbd:b≠d) (hbk:b≠kb) (lo:oo+N≤E.length) (ls:so+m≤E.length) (hap:so+m≤oo∨oo+N≤so)
 (hE:Bytes E) (hN:N≤1000) (hm:m≤1000) (hc1:N≤c1) (hc2:m≤c2) :
 Calls Tryz.prog 58 #[sl b oo N c1,.iface ty (ptr d),sl b so m c2] w fun e w'=>e=.returned (.tuple #[])∧Mod [d,b] w w'∧(∃M,AT w' d M)∧Blk w' b 5 ((xorAt H n (cut E so m) oo N E).map u8):=by
 obtain⟨S,hS⟩:∃S,S=cut E so m:=⟨_,rfl⟩
 have lS:S.length=m:=by rw[hS,cut_length]
 rw[←hS]
 obtain⟨W0,hW0⟩:∃W0,W0=w.alloc (.cells (List.replicate 4 (Go.Proofs.YtfgmnbmnpihjdaaGreatDoor.u8 0)).toArray 151):=⟨_,rfl⟩
 obtain⟨cb,hcb⟩:∃cb,cb=w.heap.size:=⟨_,rfl⟩
 have hC0:Blk W0 cb 151 ([0,0,0,0].map u8):=by rw[hW0,hcb];exact Blk.new w _ _
 have m0:Mod [] w W0:=by rw[hW0];exact(Mod.refl [] w).alloc _
 have hnR:=MK.nR d
 have hnW:=MK.nW d
 have hnS:=MK.nS d
 have hmR:=MK.mR d
 have hmW:=MK.mW d
 have hmS:=MK.mS d
 have heR:=MK.eR
 have heW:=MK.eW
 have heS:=MK.eS
 have hlt:=HC.lt hD
 have hblt:=hb.lt
 have HS:=hide hS
 have HD:=hide hD
 have HCB:=hide hcb
 have hcb2:w.heap.size≤cb:=by omega
 have hW0s:W0.heap.size=cb+1:=by rw[hW0,hcb];simp
 have HW0:=hide hW0s
 clear hS hD hW0s
 go_enter Tryz.func58,Tryz.ntmps58
 go_upto_region 1 with fail
 refine(?_:Code.wp _ _ _ _ (w.alloc (.cells (List.replicate 4 (Go.Proofs.YtfgmnbmnpihjdaaGreatDoor.u8 0)).toArray 151)))
 rw[←hW0,←hcb]
 clear hW0 hcb
 go_wp2_with fail
 go_loopw [7,8] (fun dv tv wr=>∃(q t:Nat) (M L:List Nat),tv=i64 t∧t=mgfT n N q∧(t<N→q*n<N)∧Mod [d,b] w wr∧Blk wr b 5 ((xorAt H n S oo t E).map u8)∧Blk wr cb 151 ([0,0,0,q].map u8)∧AT wr d M∧Own Go.Proofs.YtfgmnbmnpihjdaaGreatDoor.u8 5 wr (cb+1) dv L) (fun _ a _=>N-(intOf a).toNat)
 case atStart=>exact⟨0,0,M0,[],rfl,by unfold mgfT;omega,by omega,m0.then1 (Mod.refl _ _),by rw[xorAt_zero];exact hb.mod m0 (by simp),hC0,HC.up HD.out m0 (by simp) (by simp),Own.nil _ _ _ _⟩
 case round=>
  obtain⟨q,t,M,L,rfl,ht,htq,hmw,hB,hC,hA,hO⟩:=hrel
  have hws:=hmw.size
  by_cases h1:t<N
  ·have hqn:=htq h1
   have htv:t=q*n:=by rw[ht];unfold mgfT;omega
   have hn28:=HC.lo
   have hq1:q*28≤q*n:=Nat.mul_le_mul_left _ hn28
   have hq2:q<255:=by omega
   have hg:(t:Int)<(N:Int):=by omega
   have hC0lt:=hC.lt
   have hdc:d≠cb:=by omega
   have hbc:b≠cb:=by omega
   have hkc:kb≠cb:=by omega
   obtain⟨a0,n0,c0,v0,rfl,hsl,hO0,hob⟩:=zero_slice hO
   have HT:=hide (And.intro ht (And.intro htq (And.intro hqn htv)))
   have HWS:=hide (And.intro hws (And.intro hq1 hq2))
   have C1:=hide (HC.reset wr d M hA)
   clear ht htq hqn htv hws hq1 hq2 hA hO
   go_wp2_with fail
   refine C1.out.mono ?_
   rintro e w1 ⟨rfl,m1,A1⟩
   have B1:=hB.mod m1 (by simpa using hbd)
   have S1:SliceB w1 (sl b so m c2) S:=by
    rw[←lS]
    exact .inr (.inr ⟨b,so,c2,rfl,by omega,fun i hi=>by
     have hle:so+i<E.length:=by omega
     have:=B1.at (so+i) (by rw[xorAt_length];exact hle)
     rw[this,nth_xorAt hle,if_neg (by omega),HS.out,nth_cut (by omega)]⟩)
   have C2:=hide (HC.write w1 d [] (sl b so m c2) S A1 S1 (by intro b' o' n' c' e;cases e;exact hbd) (by omega) (by simp) (.inr rfl))
   rw[List.nil_append]at C2
   clear C1 S1 A1
   go_wp2_with fail
   refine C2.out.mono ?_
   rintro e w2 ⟨rfl,m2,A2⟩
   have m12:Mod [d] wr w2:=m1.trans m2 (fun _ h _=>h) (fun _ h _=>h)
   have K2:=hC.mod m12 (by simpa using fun h=>hdc h.symm)
   have C3:=hide (fun w' (mm:Mod [] w2 w')=>HC.write w' d S (sl cb 0 4 4) [0,0,0,q] (HC.up A2 mm (by simp) (by simp)) (.inr (.inr ⟨cb,0,4,rfl,by simp,fun i hi=>by rw[Nat.zero_add];exact cell_up0 (K2.at i hi) mm⟩)) (by intro b' o' n' c' e;cases e;exact fun h=>hdc h.symm) (by simp) (by omega) (.inl (by simp)))
   have hsa:=fun u=>run_arr4 cb u
   clear C2 A2
   go_wp2_with fail
   go_region_with (refine(C3.out _ (Mod.refl [] _).drew).mono ?_;rintro e w3 ⟨rfl,m3,A3⟩)
   clear C3
   have m23:Mod [d] w2 w3:=(Mod.refl [d] w2).drew.trans m3 (fun _ h _=>h) (fun _ h _=>h)
   have m13:Mod [d] wr w3:=m12.trans m23 (fun _ h _=>h) (fun _ h _=>h)
   have O3:Own Go.Proofs.YtfgmnbmnpihjdaaGreatDoor.u8 5 w3 (cb+1) v0 []:=hO0.mod m13 (fun x hx=>by
    simp at hx;subst hx
    intro b' o' n' c' e
    have:=hob b' (by rw[e];simp[Value.ownBlock])
    omega)
   have C4:=hide (fun w' (mm:Mod [] w3 w')=>HC.sum w' d (S++[0,0,0,q]) (cb+1) v0 (HC.up A3 mm (by simp) (by simp)) (O3.mod mm (by simp)) (by have:=mm.size;have:=m13.size;have:=HWS.out;have:=HW0.out;omega) (by simp;omega))
   clear O3
   go_wp2_with fail
   go_region_with (refine(C4.out _ (Mod.refl [] _).drew).mono ?_;rintro e w4 ⟨v4,rfl,O4,m4⟩)
   clear C4
   obtain⟨D,hD⟩:∃D,D=H (S++[0,0,0,q]):=⟨_,rfl⟩
   rw[←hD]at O4
   have lD:D.length=n:=by rw[hD];exact HC.ok.len _
   have bD:Bytes D:=by rw[hD];exact HC.ok.bytes _
   obtain⟨g,cap,rest,rfl,hbg,hBg,hcg,hmg⟩:∃g cap rest,v4=sl g 0 D.length cap∧cb+1≤g∧Blk w4 g 5 (D.map Go.Proofs.YtfgmnbmnpihjdaaGreatDoor.u8++rest)∧D.length+rest.length=cap∧cap≤maxLen:=by
    rcases O4.blk with⟨_,h⟩|⟨g,cap,rest,h⟩
    ·rw[h]at lD;simp at lD;omega
    ·exact⟨g,cap,rest,h⟩
   rw[lD]at O4 ⊢
   have HDD:=hide hD
   have m34:Mod v0.ownBlock.toList w2 w4→True:=fun _=>trivial
   have hbw:b<w.heap.size:=hblt
   have m4':Mod v0.ownBlock.toList w3 w4:=(Mod.refl _ w3).drew.trans m4 (fun _ h _=>h) (fun _ h _=>h)
   have A4:=HC.up A3 m4' (fun h=>by have:=hob d h;omega) (fun h=>by have:=hob kb h;omega)
   have hB4:=(hB.mod m13 (by simpa using hbd)).mod m4' (fun h=>by have:=hob b h;omega)
   have hC4:=(hC.mod m13 (by simpa using fun h=>hdc h.symm)).mod m4' (fun h=>by have:=hob cb h;omega)
   have mw4:Mod [d,b] w w4:=(hmw.trans m13 (fun _ h _=>h) (fun x h _=>by simp at h;simp[h])).trans m4' (fun _ h _=>h) (fun x h hl=>by have:=hob x h;omega)
   have HW4:=hide mw4
   have HA4:=hide A4
   have HC4:=hide hC4
   have HO4:=hide O4
   clear m34 hD A3 m4 m4' A4 m23 m13 m12 m1 m2 m3 B1 K2 hB hC hmw hC4 mw4 O4 hO0 hob hsl
   go_wp2_with fail
   go_loopw [9,8] (fun iv dn wx=>∃i ti,iv=i64 i∧dn=i64 ti∧ti=t+i∧i≤n∧ti≤N∧Mod [b] w4 wx∧Blk wx b 5 ((xorAt H n S oo ti E).map Go.Proofs.YtfgmnbmnpihjdaaGreatDoor.u8)) (fun iv _ _=>n-(intOf iv).toNat)
   case atStart=>exact⟨0,t,rfl,rfl,rfl,by omega,by omega,Mod.refl _ _,hB4⟩
   case round=>
    obtain⟨i,ti,rfl,rfl,hti,hin,htN,mb,Bi⟩:=hrel
    rcases (by omega:(i<n∧ti<N)∨(i<n∧¬ti<N)∨¬i<n)with⟨h3,h4⟩|⟨h3,h4⟩|h3
    ·have g3:(i:Int)<(n:Int):=by omega
     have g4:(ti:Int)<(N:Int):=by omega
     obtain⟨p,hp⟩:∃p,p=oo+ti:=⟨_,rfl⟩
     have hpE:p<E.length:=by omega
     have cx:=Bi.at p (by rw[xorAt_length];exact hpE)
     have fx:=Bi.frozen p
     have cy:wr.cell? ⟨g,i,none⟩=some (Go.Proofs.YtfgmnbmnpihjdaaGreatDoor.u8 (nth D i)):=by
      have:=(hBg.mod mb (by simp;omega)).cell i
      rw[this,List.getElem?_append_left (by simp;omega),map_get (by omega)]
     obtain⟨x,hx⟩:∃x,x=nth (xorAt H n S oo ti E) p:=⟨_,rfl⟩
     obtain⟨y,hy⟩:∃y,y=nth D i:=⟨_,rfl⟩
     rw[←hx]at cx
     rw[←hy]at cy
     have hx8:x<256:=by rw[hx];exact xorAt_bytes HC.ok hE p
     have hy8:y<256:=by rw[hy];exact bD i
     have hxor:=xor_u8 hx8 hy8
     obtain⟨z,hz⟩:∃z,z=x ^^^ y:=⟨_,rfl⟩
     rw[←hz]at hxor
     have Bn:Blk (wr.setCell ⟨b,p,none⟩ (Go.Proofs.YtfgmnbmnpihjdaaGreatDoor.u8 z)) b 5 ((xorAt H n S oo (ti+1) E).map Go.Proofs.YtfgmnbmnpihjdaaGreatDoor.u8):=by
      have h:=Bi.set p z
      rw[hp,xorAt_next (by omega) (by
       obtain⟨_,_,_,htv⟩:=HT.out
       have e1:ti/n=q:=by rw[hti,htv,Nat.mul_comm,Nat.mul_add_div (by omega),Nat.div_eq_of_lt h3,Nat.add_zero]
       have e2:ti%n=i:=by rw[hti,htv,Nat.mul_comm,Nat.mul_add_mod,Nat.mod_eq_of_lt h3]
       rw[hz,hx,hy,nth_xorAt hpE,if_neg (by omega),hp,mgfB,e1,e2,←HDD.out])]at h
      rw[hp];exact h
     have mn:Mod [b] w4 (wr.setCell ⟨b,p,none⟩ (Go.Proofs.YtfgmnbmnpihjdaaGreatDoor.u8 z)):=mb.setCell _ _ (by simp)
     have ei:IntKind.i64.wrap ((ti:Int)+1)=((ti+1:Nat):Int):=by rw[IntKind.wrap_i64];omega
     have ej:IntKind.i64.wrap ((i:Int)+1)=((i+1:Nat):Int):=by rw[IntKind.wrap_i64];omega
     rw[hp]at cx fx Bn mn
     have HZ:=hide hz
     have HTI:=hide hti
     have HIN:=hide (And.intro hin htN)
     clear hx hy hx8 hy8 Bi mb hB4 hBg hz hp hti hin htN hpE
     go_wp2_with fail
     go_region_with (fail)
     all_goals
      go_wp2_with fail
      go_roundw
      case rel=>exact⟨i+1,ti+1,by first|rfl|(simp[Go.Proofs.YtfgmnbmnpihjdaaGreatDoor.i64];done),by first|rfl|(simp[Go.Proofs.YtfgmnbmnpihjdaaGreatDoor.i64];done),by rw[HTI.out];omega,by omega,by omega,mn.drew,Bn.drew⟩
      case measure=>simp[intOf];omega
    all_goals
     have hend:ti=mgfT n N (q+1)∧(ti<N→(q+1)*n<N):=by
      obtain⟨e1,e2,e3,e4⟩:=HT.out
      rw[mgfT,Nat.add_mul,Nat.one_mul,←e4]
      omega
     have hIC:=(HC4.out.mod mb (by simpa using fun h=>hbc h.symm))
     have CI:=hide (c_inc cb q wr hIC (by have:=HWS.out;omega))
     have gl:ti≤N:=htN
     have hlt2:t<ti:=by omega
     have HTI:=hide hti
     have HIN:=hide (And.intro hin htN)
     have HE:=hide hend
     have HB:=hide Bi
     have HM:=hide mb
     clear hIC hti hin htN hend Bi mb hB4 hBg
    ·have g3:(i:Int)<(n:Int):=by omega
     have g4:¬(ti:Int)<(N:Int):=by omega
     go_wp2_with fail
     refine CI.out.mono ?_
     rintro e w5 ⟨rfl,m5,C5⟩
     have A5:=HC.up (HC.up HA4.out HM.out (by simpa using fun h=>hbd h.symm) (by simpa using fun h=>hbk h.symm)) m5 (by simpa using hdc) (by simpa using hkc)
     have B5:=HB.out.mod m5 (by simpa using hbc)
     have O5:=(HO4.out.mod HM.out (fun x hx=>by simp at hx;subst hx;intro b' o' n' c' e;cases e;omega)).mod m5 (fun x hx=>by simp at hx;subst hx;intro b' o' n' c' e;cases e;omega)
     have M5:Mod [d,b] w w5:=(HW4.out.trans HM.out (fun _ h _=>h) (fun x h _=>by simp at h;simp[h])).trans m5 (fun _ h _=>h) (fun x h hl=>by simp at h;omega)
     have HA5:=hide A5
     clear A5 CI
     go_wp2_with fail
     go_roundw
     case rel=>exact⟨q+1,ti,S++[0,0,0,q],D,rfl,HE.out.1,HE.out.2,M5,B5,C5,HA5.out,O5⟩
     case measure=>simp[intOf];omega
    ·have g3:¬(i:Int)<(n:Int):=by omega
     go_wp2_with fail
     refine CI.out.mono ?_
     rintro e w5 ⟨rfl,m5,C5⟩
     have A5:=HC.up (HC.up HA4.out HM.out (by simpa using fun h=>hbd h.symm) (by simpa using fun h=>hbk h.symm)) m5 (by simpa using hdc) (by simpa using hkc)
     have B5:=HB.out.mod m5 (by simpa using hbc)
     have O5:=(HO4.out.mod HM.out (fun x hx=>by simp at hx;subst hx;intro b' o' n' c' e;cases e;omega)).mod m5 (fun x hx=>by simp at hx;subst hx;intro b' o' n' c' e;cases e;omega)
     have M5:Mod [d,b] w w5:=(HW4.out.trans HM.out (fun _ h _=>h) (fun x h _=>by simp at h;simp[h])).trans m5 (fun _ h _=>h) (fun x h hl=>by simp at h;omega)
     have HA5:=hide A5
     clear A5 CI
     go_wp2_with fail
     go_roundw
     case rel=>exact⟨q+1,ti,S++[0,0,0,q],D,rfl,HE.out.1,HE.out.2,M5,B5,C5,HA5.out,O5⟩
     case measure=>simp[intOf];omega
  ·have htN:t=N:=by rw[ht];unfold mgfT;unfold mgfT at ht;omega
   have hg:¬(t:Int)<(N:Int):=by omega
   have HT:=hide htN
   clear ht htq htN
   go_wp2_with fail
   go_end0
   exact⟨rfl,hmw,⟨M,hA⟩,by rw[HT.out]at hB;exact hB⟩
end Go.Proofs.YtfgmnbmnpihjdaaGreatDoor
