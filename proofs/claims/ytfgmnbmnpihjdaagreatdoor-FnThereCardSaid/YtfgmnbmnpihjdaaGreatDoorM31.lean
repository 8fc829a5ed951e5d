/- Lemmas of mine for the walk and its plain laws: HzG64 Crt OaepL HashI -/
import Derived.Test.YtfgmnbmnpihjdaaGreatDoorM30
import Derived.Test.YtfgmnbmnpihjdaaGreatDoorM24
import Derived.Test.YtfgmnbmnpihjdaaGreatDoorM01
import Derived.Test.YtfgmnbmnpihjdaaGreatDoorM14
import Derived.Test.YtfgmnbmnpihjdaaGreatDoorM15
import Derived.Test.YtfgmnbmnpihjdaaGreatDoorM02
set_option linter.all false
set_option exponentiation.threshold 7000000
set_option maxHeartbeats 8000000
namespace Go.Proofs.YtfgmnbmnpihjdaaGreatDoor
open Go.RowKit
set_option maxRecDepth 1000000 in
theorem z_Block64(h:List Int)(lh:h.length=8)(hb ho hc:Nat)(P:List Nat)(pb po pc:Nat)(w:World)(h8:8≤hc)(hh:∀i,i<8→w.cell? ⟨hb,ho+i,none⟩=some (v64 (ith h i)))(hp:∀i,i<128→w.cell? ⟨pb,po+i,none⟩=some (Go.Proofs.YtfgmnbmnpihjdaaGreatDoor.u8 (nth P i)))(hpc:128≤pc) :
 Calls Tryz.prog 74 #[sl hb ho 8 hc,sl pb po 128 pc] w fun e w'=>Mod [] w w'∧∃v,e=.returned v∧∃L:List Int,L.length=8∧OwnI v64 135 w' w.heap.size v L:=by
 have hown0:OwnI v64 135 (w.alloc (.cells #[] 135)) w.heap.size (sl w.heap.size 0 0 0) []:=OwnI.ofBlk (rest:=[]) (Nat.le_refl _) (Blk.new w _ []) rfl (by simp[maxLen])
 have HP:=hide hp
 have HH:=hide hh
 have HHB:=hide (block_lt_of_cell (hh 0 (by omega)))
 clear hp hh lh
 go_enter Tryz.func74,Tryz.ntmps74
 go_wp2_with fail
 go_loopw [5,21] (fun v a wr=>∃(i:Nat) (L:List Int) (vv:Value),a=i64 i∧vv=v∧i≤80∧ZS v64 135 w vv L wr∧L.length=i) (fun _ a _=>80-(intOf a).toNat)
 case atStart=>exact⟨0,[],_,rfl,rfl,by omega,⟨(Mod.refl _ _).alloc _,hown0⟩,rfl⟩
 case round=>
  obtain⟨i,L,vv,rfl,rfl,hi,hZ,hL⟩:=hrel
  by_cases hR:i<80
  ·have g:(i:Int)<80:=by omega
   have ei:IntKind.i64.wrap ((i:Int)+1)=((i+1:Nat):Int):=by rw[IntKind.wrap_i64];omega
   have HLL:=hide hL
   have ll:L.length<900000:=by omega
   by_cases h16:i<16
   ·obtain⟨q,hq⟩:∃q,q=8*i:=⟨_,rfl⟩
    obtain⟨q8,hq8⟩:∃q8,q8=q+8:=⟨_,rfl⟩
    have g16:(i:Int)<16:=by omega
    have e0:(8:Int)*(i:Int)=(q:Int):=by omega
    have e8:(q:Int)+8=(q8:Int):=by omega
    have w0:IntKind.i64.wrap (q:Int)=(q:Int):=IntWalk.i64_in _ (by omega)
    have w8:IntKind.i64.wrap (q8:Int)=(q8:Int):=IntWalk.i64_in _ (by omega)
    have wi:IntKind.i64.wrap (i:Int)=(i:Int):=IntWalk.i64_in _ (by omega)
    have l0:(q:Int)≤(q8:Int):=by omega
    have l8:(q8:Int)≤(pc:Int):=by omega
    have ld:q8-q=8:=by omega
    have lq:q<pc:=by omega
    have nq:¬pc=q:=by omega
    have HQ:=hide (And.intro hq hq8)
    have HI:=hide h16
    clear hL hq hq8 h16
    go_wp2_with fail
    go_loopw [7,34] (fun x b wx=>∃(j:Nat) (z:Int),x=v64 z∧b=Go.Proofs.YtfgmnbmnpihjdaaGreatDoor.i64 j∧j≤8∧wx=wr) (fun _ b _=>8-(intOf b).toNat)
    case atStart=>exact⟨0,0,rfl,rfl,by omega,rfl⟩
    case round=>
     obtain⟨j,z,rfl,rfl,hj,rfl⟩:=hrel
     by_cases h8:j<8
     ·have gj:(j:Int)<8:=by omega
      have ej:IntKind.i64.wrap ((j:Int)+1)=((j+1:Nat):Int):=by rw[IntKind.wrap_i64];omega
      have cj:=cell_up0 (HP.out (q+j) (by have:=HQ.out;have:=HI.out;omega)) hZ.m
      rw[←Nat.add_assoc]at cj
      go_wp2_with fail
      go_roundw
      case rel=>exact⟨j+1,_,rfl,by first|rfl|(simp[Go.Proofs.YtfgmnbmnpihjdaaGreatDoor.i64];done),by omega,by first|rfl|trivial⟩
      case measure=>simp[intOf];omega
     ·obtain rfl:j=8:=by omega
      go_wp2_with (at_builtin;refine wpl_push1 (w:=w) (v:=vv) (L:=L) rfl _ _ _ rfl v64 rfl Tryz.underlying90 info_u64 (by omega) (fun _=>rfl) (hZ.alloc _) ll rfl rfl (cell_new1 _ _ _ _) ?_)
      intro v' w' hnew
      have HN:=hide hnew
      clear hZ hnew
      go_wp2_with fail
      go_roundw
      case rel=>exact⟨i+1,_,v',by first|rfl|(simp[Go.Proofs.YtfgmnbmnpihjdaaGreatDoor.i64];done),rfl,by omega,HN.out,by rw[List.length_append,HLL.out];rfl⟩
      case measure=>simp[intOf];omega
   ·obtain⟨g1,cc,rfl,hgb,hcc,hcell⟩:=hZ.o.slice (by omega)
    have g16:¬(i:Int)<16:=by omega
    have p2:=hcell (i-2) (by omega)
    have p15:=hcell (i-15) (by omega)
    obtain⟨x,hx⟩:∃x,x=ith L (i-2):=⟨_,rfl⟩
    obtain⟨y,hy⟩:∃y,y=ith L (i-15):=⟨_,rfl⟩
    rw[←hx]at p2
    rw[←hy]at p15
    rw[hL]at hZ ⊢
    have HI:=hide h16
    clear hx hy hcell hL h16 hcc
    go_upto_region 13 with fail
    refine zp7_64 _ wr g1 i cc (i-2) (i-15) x y _ _ _ _ _ _ _ _ _ _ _ _ _ _ _ _ _ _ _ _ _ _ _ _ _ _ _ _ _ _ _ _ _ _ _ _ _ _ _ _ _ _ _ _ _ _ _ _ _ _ _ _ _ _ _ _ _ _ _ _ _ _ _ _ _ _ _ _ _ _ _ _ _ _ _ _ _ _ _ _ _ _ _ _ _ _ _ _ _ _ _ _ _ _ _ _ _ _ _ _ _ _ _ _ _ _ _ _ _ _ _ _ _ _ _ _ _ _ _ _ _ _ _ _ _ _ _ _ _ _ _ _ _ _ _ _ _ _ _ _ _ _ _ _ _ _ _ _ _ _ _ _ _ _ _ _ _ _ _ _ _ _ _ _ _ _ _ _ _ _ _ _ _ _ _ _ _ _ _ _ _ _ _ _ _ _ _ _ _ _ _ _ _ _ _ _ _ _ _ _ _ _ _ _ _ _ _ _ _ _ hR (by have:=HI.out;omega) (by have:=HI.out;omega) p2 p15 ?_
    intros
    rename_i n1
    clear p2 p15
    apply_assumption
    have hZ1:=hZ.drewN n1
    refine zp8_64 _ _ w g1 i cc (i-7) (i-16) x y _ _ L _ _ _ _ _ _ _ _ _ _ _ _ _ _ _ _ _ _ _ _ _ _ _ _ _ _ _ _ _ _ _ _ _ _ _ _ _ _ _ _ _ _ _ _ _ _ _ _ _ _ _ _ _ _ _ _ _ _ _ _ _ _ _ _ _ _ _ _ _ _ _ _ _ _ _ _ _ _ _ _ _ _ _ _ _ _ _ _ _ _ _ _ _ _ _ _ _ _ _ _ _ _ _ _ _ _ _ _ _ _ _ _ _ _ _ _ _ _ _ _ _ _ _ _ _ _ _ _ _ _ _ _ _ _ _ _ _ _ _ _ _ _ _ _ _ _ _ _ _ _ _ _ _ _ _ _ _ _ _ _ _ _ _ _ _ _ _ _ _ _ _ _ _ _ _ _ _ _ _ _ _ _ _ _ _ _ _ _ _ _ _ _ _ _ _ _ _ _ _ _ _ _ _ _ _ _ _ _ HLL.out hR (by have:=HI.out;omega) (by have:=HI.out;omega) rfl rfl hZ1 ?_
    intros
    rename_i v' w' z hnew
    clear hZ hZ1
    go_wp2_with fail
    go_roundw
    case rel=>exact⟨i+1,_,v',by first|rfl|(simp[Go.Proofs.YtfgmnbmnpihjdaaGreatDoor.i64];done),rfl,by omega,hnew,by rw[List.length_append,HLL.out];rfl⟩
    case measure=>simp[intOf];omega
  ·obtain rfl:i=80:=by omega
   have g:¬((80:Nat):Int)<80:=by omega
   obtain⟨wb,wc,rfl,hwb,hwc,hwcell⟩:=hZ.o.slice (by omega)
   rw[hL]at hZ hwcell ⊢
   have HL:=hide hL
   have HZ:=hide hZ
   have hm:=hZ.m
   clear hL hwcell hwc hi hR hZ
   go_wp2_with fail
   refine(z_Constants _).mono ?_
   rintro e w1 ⟨m1,v1,L1,rfl,l1,o1⟩
   obtain⟨kb,kc,rfl,hkb,hkc,hkcell⟩:=o1.slice (by omega)
   have HK:=hide hkcell
   rw[l1]at HK ⊢
   have hm1:=hm.then1 m1
   have HZ1:=hide (HZ.out.up m1)
   have hs1:=hm1.size
   clear HZ o1 hkcell hkc m1 hm
   have hv0:OwnI v64 135 (w1.alloc (.cells #[] 135)) w1.heap.size (sl w1.heap.size 0 0 0) []:=OwnI.ofBlk (rest:=[]) (Nat.le_refl _) (Blk.new w1 _ []) rfl (by simp[maxLen])
   have hMA:Mod [] w1 (w1.alloc (.cells #[] 135)):=(Mod.refl [] w1).alloc _
   have hcH:∀j,j<8→(w1.alloc (.cells #[] 135)).cell? ⟨hb,ho+j,none⟩=some (v64 (ith ((List.range 8).map (ith h)) j)):=fun j hj=>by
    rw[cell_up0 (cell_up0 (HH.out j hj) hm1) hMA]
    have:ith ((List.range 8).map (ith h)) j=ith h j:=by simp[ith,hj]
    rw[this]
   have HCH:=hide hcH
   clear hcH
   go_wp2_with (at_builtin;refine wpl_pushI rfl _ _ _ rfl _ hb ho 8 hc rfl rfl v64 rfl Tryz.underlying90 info_u64 (by omega) (fun _=>rfl) hMA hv0 (by simp) HCH.out (by simp) ?_)
   intro v2 w2 o2 m2
   obtain⟨L2,hL2⟩:∃L2:List Int,L2=[ith h 0,ith h 1,ith h 2,ith h 3,ith h 4,ith h 5,ith h 6,ith h 7]:=⟨_,rfl⟩
   have l2:L2.length=8:=by rw[hL2];rfl
   rw[←hL2]at o2
   obtain⟨vb,vc,rfl,hvb,hvc,hvcell⟩:=o2.slice (by omega)
   rw[l2]at o2 ⊢
   have HZ2:=hide (HZ1.out.up m2)
   have HK2:=hide (fun w' (m:Mod [] w2 w') j (hj:j<80)=>cell_up0 (cell_up0 (HK.out j hj) m2) m)
   have hm2:=hm1.then1 m2
   have hs2:=hm2.size
   have o2':OwnI v64 135 w2 w.heap.size (sl vb 0 8 vc) L2:=o2.base hs1
   have HO2:=hide o2'
   clear hL2 o2 o2' hvcell hvc HZ1 HK hv0 hMA HCH m2
   go_wp2_with fail
   go_loopw [13,95] (fun v a wr=>∃(i gb gc:Nat) (Lv:List Int),a=i64 i∧v=sl gb 0 8 gc∧i≤80∧Mod [] w2 wr∧OwnI v64 135 wr w.heap.size (sl gb 0 8 gc) Lv∧Lv.length=8) (fun _ a _=>80-(intOf a).toNat)
   case atStart=>exact⟨0,vb,vc,L2,rfl,rfl,by omega,Mod.refl _ _,HO2.out,l2⟩
   case round=>
    obtain⟨i,gb,gc,Lv,rfl,rfl,hi,hm3,ov,lv⟩:=hrel
    by_cases hR:i<80
    ·have g:(i:Int)<80:=by omega
     have ei:IntKind.i64.wrap ((i:Int)+1)=((i+1:Nat):Int):=by rw[IntKind.wrap_i64];omega
     obtain⟨g',c',e,_,_,hc8⟩:=ov.slice (by omega)
     simp only[Value.slice.injEq,Option.some.injEq,Addr.mk.injEq]at e
     obtain⟨⟨rfl,_⟩,_,rfl⟩:=e
     rw[lv]at hc8
     have q0:=hc8 0 (by omega)
     have q1:=hc8 1 (by omega)
     have q2:=hc8 2 (by omega)
     have q3:=hc8 3 (by omega)
     have q4:=hc8 4 (by omega)
     have q5:=hc8 5 (by omega)
     have q6:=hc8 6 (by omega)
     have q7:=hc8 7 (by omega)
     have pk:=HK2.out _ hm3 i (by omega)
     have pw:=(HZ2.out.up hm3).cell (j:=i) (by rw[HL.out];omega)
     rw[←Nat.zero_add i]at pk
     clear hc8
     go_upto_region 21 with fail
     refine zp15_64 _ wr gb gc _ _ _ _ _ _ _ _ _ _ _ _ _ _ _ _ _ _ _ _ _ _ _ _ _ _ _ _ _ _ _ _ _ _ _ _ _ _ _ _ _ _ _ _ _ _ _ _ _ _ _ _ _ _ _ _ _ _ _ _ _ _ _ _ _ _ _ _ _ _ _ _ _ _ _ _ _ _ _ _ _ _ _ _ _ _ _ _ _ _ _ _ _ _ _ _ _ _ _ _ _ _ _ _ _ _ _ _ _ _ _ _ _ _ _ _ _ _ _ _ _ _ _ _ _ _ _ _ _ _ _ _ _ _ _ _ _ _ _ _ _ _ _ _ _ _ _ _ _ _ _ _ _ _ _ _ _ _ _ _ _ _ _ _ _ _ _ _ _ _ _ _ _ _ _ _ _ _ _ _ _ _ _ _ _ _ _ _ _ _ _ _ _ _ _ _ _ _ _ _ _ _ _ _ _ _ _ _ _ _ _ _ _ q0 q4 ?_
     intros
     rename_i n1
     apply_assumption
     go_upto_region 22 with fail
     refine zp16_64 _ _ gb gc i kb 0 kc wb wc _ _ _ _ _ _ _ _ _ _ _ _ _ _ _ _ _ _ _ _ _ _ _ _ _ _ _ _ _ _ _ _ _ _ _ _ _ _ _ _ _ _ _ _ _ _ _ _ _ _ _ _ _ _ _ _ _ _ _ _ _ _ _ _ _ _ _ _ _ _ _ _ _ _ _ _ _ _ _ _ _ _ _ _ _ _ _ _ _ _ _ _ _ _ _ _ _ _ _ _ _ _ _ _ _ _ _ _ _ _ _ _ _ _ _ _ _ _ _ _ _ _ _ _ _ _ _ _ _ _ _ _ _ _ _ _ _ _ _ _ _ _ _ _ _ _ _ _ _ _ _ _ _ _ _ _ _ _ _ _ _ _ _ _ _ _ _ _ _ _ _ _ _ _ _ _ _ _ _ _ _ _ _ _ _ _ _ _ _ _ _ _ _ _ _ _ _ _ _ _ _ _ _ _ _ _ _ _ _ _ _ _ _ (cell_drewN q5) (cell_drewN q6) (cell_drewN q7) hR (cell_drewN pk) (cell_drewN pw) ?_
     intros
     rename_i n2 z1
     apply_assumption
     go_upto_region 23 with fail
     refine zp17_64 _ _ gb gc _ _ _ _ _ _ _ _ _ _ _ _ _ _ _ _ _ _ _ _ _ _ _ _ _ _ _ _ _ _ _ _ _ _ _ _ _ _ _ _ _ _ _ _ _ _ _ _ _ _ _ _ _ _ _ _ _ _ _ _ _ _ _ _ _ _ _ _ _ _ _ _ _ _ _ _ _ _ _ _ _ _ _ _ _ _ _ _ _ _ _ _ _ _ _ _ _ _ _ _ _ _ _ _ _ _ _ _ _ _ _ _ _ _ _ _ _ _ _ _ _ _ _ _ _ _ _ _ _ _ _ _ _ _ _ _ _ _ _ _ _ _ _ _ _ _ _ _ _ _ _ _ _ _ _ _ _ _ _ _ _ _ _ _ _ _ _ _ _ _ _ _ _ _ _ _ _ _ _ _ _ _ _ _ _ _ _ _ _ _ _ _ _ _ _ _ _ _ _ _ _ _ _ _ _ _ _ _ _ _ _ _ _ (cell_drewN (cell_drewN q1)) (cell_drewN (cell_drewN q2)) ?_
     intros
     rename_i n3 z2
     apply_assumption
     obtain⟨w4,hw4⟩:∃w4,w4=((wr.drewN n1).drewN n2).drewN n3:=⟨_,rfl⟩
     have m34:Mod [] wr w4:=by rw[hw4];exact(((Mod.refl [] wr).drewN _).drewN _).drewN _
     have hm4:=hm3.then1 m34
     rw[←hw4]
     clear hw4
     go_upto_region 24 with fail
     refine zp18_64 _ w4 gb gc _ _ _ _ _ _ _ _ _ _ _ _ _ _ _ _ _ _ _ _ _ _ _ _ _ _ _ _ _ _ _ _ _ _ _ _ _ _ _ _ _ _ _ _ _ _ _ _ _ _ _ _ _ _ _ _ _ _ _ _ _ _ _ _ _ _ _ _ _ _ _ _ _ _ _ _ _ _ _ _ _ _ _ _ _ _ _ _ _ _ _ _ _ _ _ _ _ _ _ _ _ _ _ _ _ _ _ _ _ _ _ _ _ _ _ _ _ _ _ _ _ _ _ _ _ _ _ _ _ _ _ _ _ _ _ _ _ _ _ _ _ _ _ _ _ _ _ _ _ _ _ _ _ _ _ _ _ _ _ _ _ _ _ _ _ _ _ _ _ _ _ _ _ _ _ _ _ _ _ _ _ _ _ _ _ _ _ _ _ _ _ _ _ _ _ _ _ _ _ _ _ _ _ _ _ _ _ _ _ _ _ _ _ _ _ _ _ _ (cell_up0 q0 m34) (cell_up0 q1 m34) (cell_up0 q2 m34) (cell_up0 q3 m34) (cell_up0 q4 m34) (cell_up0 q5 m34) (cell_up0 q6 m34) ?_
     intros
     rename_i y0 y1 y2 y3 y4 y5 y6 y7
     have o5:OwnI v64 135 (w4.alloc (.cells #[v64 y0,v64 y1,v64 y2,v64 y3,v64 y4,v64 y5,v64 y6,v64 y7] 135)).drew w.heap.size (sl w4.heap.size 0 8 8) [y0,y1,y2,y3,y4,y5,y6,y7]:=
      (OwnI.made v64 135 [v64 y0,v64 y1,v64 y2,v64 y3,v64 y4,v64 y5,v64 y6,v64 y7] rfl (by have:=hm4.size;omega) rfl rfl (by simp[maxLen])).mod (Mod.refl [] _).drew (by simp)
     have m5:Mod [] w2 (w4.alloc (.cells #[v64 y0,v64 y1,v64 y2,v64 y3,v64 y4,v64 y5,v64 y6,v64 y7] 135)).drew:=(hm4.alloc _).drew
     have HO5:=hide o5
     have HM5:=hide m5
     clear o5 m5 q0 q1 q2 q3 q4 q5 q6 q7 pk pw ov hm3 m34
     go_wp2_with fail
     go_roundw
     case rel=>exact⟨i+1,_,_,_,by first|rfl|(simp[Go.Proofs.YtfgmnbmnpihjdaaGreatDoor.i64];done),rfl,by omega,HM5.out,HO5.out,rfl⟩
     case measure=>simp[intOf];omega
    ·obtain rfl:i=80:=by omega
     have g:¬((80:Nat):Int)<80:=by omega
     have HH3:=hide (fun w' (m:Mod [] w w') j (hj:j<8)=>cell_up0 (HH.out j hj) m)
     have hm5:=hm2.then1 hm3
     have HOV:=hide ov
     clear HK2 HZ2 ov hi hR hm3
     go_wp2_with fail
     go_loopw [197] (fun a wr=>∃(i:Nat) (Lv:List Int),a=i64 i∧i≤8∧Mod [] w wr∧OwnI v64 135 wr w.heap.size (sl gb 0 8 gc) Lv∧Lv.length=8) (fun a _=>8-(intOf a).toNat)
     case atStart=>exact⟨0,Lv,rfl,by omega,hm5,HOV.out,lv⟩
     case round=>
      obtain⟨i,Lx,rfl,hi,hmx,ox,lx⟩:=hrel
      by_cases h8i:i<8
      ·have g:(i:Int)<8:=by omega
       have ei:IntKind.i64.wrap ((i:Int)+1)=((i+1:Nat):Int):=by rw[IntKind.wrap_i64];omega
       rcases ox.blk with⟨e,_⟩|⟨g',c',rest,e,hgb2,hB,hcap,hmax⟩
       ·cases e
       ·simp only[Value.slice.injEq,Option.some.injEq,Addr.mk.injEq]at e
        obtain⟨⟨rfl,_⟩,_,rfl⟩:=e
        have px:=hB.atl i (by omega)
        have fx:=hB.frozen i
        have py:=HH3.out _ hmx i h8i
        go_upto_region 29 with fail
        refine zp23_64 _ wr gb gc i hb ho hc _ _ _ _ _ _ _ _ _ _ _ _ _ _ _ _ _ _ _ _ _ _ _ _ _ _ _ _ _ _ _ _ _ _ _ _ _ _ _ _ _ _ _ _ _ _ _ _ _ _ _ _ _ _ _ _ _ _ _ _ _ _ _ _ _ _ _ _ _ _ _ _ _ _ _ _ _ _ _ _ _ _ _ _ _ _ _ _ _ _ _ _ _ _ _ _ _ _ _ _ _ _ _ _ _ _ _ _ _ _ _ _ _ _ _ _ _ _ _ _ _ _ _ _ _ _ _ _ _ _ _ _ _ _ _ _ _ _ _ _ _ _ _ _ _ _ _ _ _ _ _ _ _ _ _ _ _ _ _ _ _ _ _ _ _ _ _ _ _ _ _ _ _ _ _ _ _ _ _ _ _ _ _ _ _ _ _ _ _ _ _ _ _ _ _ _ _ _ _ _ _ _ _ _ _ _ _ _ _ _ _ h8i px fx py ?_
        intros
        rename_i z
        have hB2:Blk (wr.setCell ⟨gb,i,none⟩ (v64 z)).drew gb 135 ((Lx.set i z).map v64++rest):=by
         have h:=hB.setCell i (v64 z)
         rw[List.set_append_left _ _ (by simp;omega),←List.map_set]at h
         exact h.drew
        have o6:OwnI v64 135 (wr.setCell ⟨gb,i,none⟩ (v64 z)).drew w.heap.size (sl gb 0 8 gc) (Lx.set i z):=by
         have h:=OwnI.ofBlk (cap:=gc) hgb2 hB2 (by rw[List.length_set];exact hcap) hmax
         rwa [List.length_set,lx]at h
        have m6:Mod [] w (wr.setCell ⟨gb,i,none⟩ (v64 z)).drew:=(hmx.setCell _ _ (fun h=>absurd h (Nat.not_lt.2 hgb2))).drew
        have HO6:=hide o6
        clear px fx py o6 hB hB2 ox hmx
        go_wp2_with fail
        go_roundw
        case rel=>exact⟨i+1,_,by first|rfl|(simp[Go.Proofs.YtfgmnbmnpihjdaaGreatDoor.i64];done),by omega,m6,HO6.out,by rw[List.length_set];exact lx⟩
        case measure=>simp[intOf];omega
      ·obtain rfl:i=8:=by omega
       have g:¬((8:Nat):Int)<8:=by omega
       have HO6:=hide ox
       clear ox HOV HH3 hm5
       go_wp2_with fail
       go_ret
       exact⟨hmx,_,rfl,Lx,lx,HO6.out⟩
theorem Prm.pow_red{p c d:Nat}(hp:Prm p)(hd:d%(p-1)≠0):c^d%p=c^(d%(p-1))%p:=by
 have hd0:d≠0:=by intro h;rw[h]at hd;simp at hd
 by_cases h:p∣c
 ·have h1:∀k,k≠0→c^k%p=0:=by
   intro k hk
   obtain⟨j,rfl⟩:∃j,k=j+1:=⟨k-1,by omega⟩
   rw[Nat.pow_succ]
   exact Nat.mod_eq_zero_of_dvd (Nat.dvd_trans h (Nat.dvd_mul_left _ _))
  rw[h1 d hd0,h1 _ hd]
 ·have e:d=(p-1)*(d/(p-1))+d%(p-1):=(Nat.div_add_mod _ _).symm
  have h1:(c^(p-1))^(d/(p-1))%p=1:=by
   rw[Nat.pow_mod,hp.fermat1 h,Nat.one_pow,Nat.mod_eq_of_lt hp.1]
  generalize hr:d%(p-1)=r at *
  generalize d/(p-1)=k at *
  rw[e,Nat.pow_add,Nat.pow_mul,Nat.mul_mod,h1,Nat.one_mul,Nat.mod_mod]
theorem crt_le{p q x y:Nat}(hc:Nat.Coprime p q)(h1:x%p=y%p)(h2:x%q=y%q)(hl:y≤x):x%(p*q)=y%(p*q):=by
 have d1:p∣x-y:=Nat.dvd_of_mod_eq_zero (Nat.sub_mod_eq_zero_of_mod_eq h1)
 have d2:q∣x-y:=Nat.dvd_of_mod_eq_zero (Nat.sub_mod_eq_zero_of_mod_eq h2)
 obtain⟨t,ht⟩:=hc.mul_dvd_of_dvd_of_dvd d1 d2
 have:x=y+p*q*t:=by omega
 rw[this,Nat.add_mul_mod_self_left]
theorem crt_eq{p q x y:Nat}(hc:Nat.Coprime p q)(h1:x%p=y%p)(h2:x%q=y%q):x%(p*q)=y%(p*q):=by
 rcases Nat.le_total y x with h|h
 ·exact crt_le hc h1 h2 h
 ·exact(crt_le hc h1.symm h2.symm h).symm
theorem Prm.cop2{p q:Nat}(hp:Prm p)(hq:Prm q)(h:p≠q):Nat.Coprime p q:=by
 refine hp.cop ?_
 intro hd
 rcases hq.2 p hd with h1|h1
 ·have:=hp.1;omega
 ·exact h h1
def crtV(p q N c dP dQ qi:Nat):Nat:=
 ((((c%p)^dP%p+p-(c%q)^dQ%q%p)%p*qi%p)*(q%N)%N+(c%q)^dQ%q)%N
theorem crtV_eq{p q c d qi:Nat}(hp:Prm p)(hq:Prm q)(hne:p≠q)(h1:d%(p-1)≠0)(h2:d%(q-1)≠0)(hi:qi*q%p=1) :
 crtV p q (p*q) c (d%(p-1)) (d%(q-1)) qi=c^d%(p*q):=by
 unfold crtV
 have e1:(c%p)^(d%(p-1))%p=c^d%p:=by rw[←Nat.pow_mod,hp.pow_red h1]
 have e2:(c%q)^(d%(q-1))%q=c^d%q:=by rw[←Nat.pow_mod,hq.pow_red h2]
 rw[e1,e2]
 generalize hx:c^d=x
 have hp0:=hp.pos
 have l1:x%p<p:=Nat.mod_lt _ hp0
 have l2:x%q%p<p:=Nat.mod_lt _ hp0
 generalize hg:(x%p+p-x%q%p)=g
 have hgl:g+x%q%p=x%p+p:=by omega
 rw[Nat.mul_mod_mod,Nat.mod_add_mod]
 refine crt_eq (hp.cop2 hq hne) ?_ ?_
 ·have h3:(g%p*qi%p*q)%p=g%p:=by
   rw[Nat.mod_mul_mod,Nat.mul_assoc,Nat.mul_mod,hi,Nat.mul_one,Nat.mod_mod,Nat.mod_mod]
  rw[Nat.add_mod,h3,←Nat.add_mod,←Nat.add_mod_mod,hgl,Nat.add_mod_right,Nat.mod_mod]
 ·rw[Nat.add_mod,Nat.mul_mod_left,Nat.zero_add,Nat.mod_mod,Nat.mod_mod]
theorem Prm.inv_pow{p q:Nat}(hp:Prm p)(hq:Prm q)(hne:p≠q):(q%p)^(p-2)%p*q%p=1:=by
 have hnd:¬p∣q:=by
  intro hd
  rcases hq.2 p hd with h1|h1
  ·have:=hp.1;omega
  ·exact hne h1
 have h2:=hp.fermat1 hnd
 have h1:=hp.1
 rw[Nat.mod_mul_mod,Nat.mul_mod,←Nat.pow_mod,←Nat.mul_mod,←Nat.pow_succ,show(p-2).succ=p-1 by omega]
 exact h2
structure HashOk(H:List Nat→List Nat)(h:Nat):Prop where
 pos:0<h
 len:∀M,(H M).length=h
 bytes:∀M,Bytes (H M)
def mgfB(H:List Nat→List Nat)(h:Nat)(S:List Nat)(j:Nat):Nat:=nth (H (S++[0,0,0,j/h])) (j%h)
def db0(L:List Nat)(z:Nat)(msg:List Nat):List Nat:=L++(List.replicate z 0++1::msg)
theorem db0_length{L:List Nat}{z:Nat}{msg:List Nat}:(db0 L z msg).length=L.length+z+1+msg.length:=by simp[db0];omega
theorem bytes_append{A B:List Nat}(hA:Bytes A)(hB:Bytes B):Bytes (A++B):=by
 intro i
 rcases Nat.lt_or_ge i A.length with h|h
 ·rw[nth_append_left h];exact hA i
 ·rw[nth_append_right h];exact hB _
theorem bytes_cons{x:Nat}{B:List Nat}(hx:x<256)(hB:Bytes B):Bytes (x::B):=by
 intro i
 cases i with
 |zero=>exact hx
 |succ i=>exact hB i
theorem bytes_zeros(z:Nat):Bytes (List.replicate z 0):=fun i=>by rw[nth_replicate0];omega
theorem db0_bytes{L:List Nat}{z:Nat}{msg:List Nat}(hL:Bytes L)(hm:Bytes msg):Bytes (db0 L z msg):=bytes_append hL (bytes_append (bytes_zeros z) (bytes_cons (by omega) hm))
theorem bval_lt_top{B:List Nat}(hB:Bytes B)(h0:nth B 0=0)(hl:0<B.length):bval B<256^(B.length-1):=by
 obtain⟨n,hn⟩:∃n,B.length=n+1:=⟨B.length-1,by omega⟩
 unfold bval
 rw[hn,bseg,show n+1-1-n=0 by omega,h0,Nat.mul_zero,Nat.add_zero,show n+1-1=n by omega]
 exact bseg_lt hB _ _
theorem rsa_round{p q e d m:Nat}(hp:Prm p)(hq:Prm q)(hne:p≠q)(h1:e*d%(p-1)=1)(h2:e*d%(q-1)=1)(hm:m<p*q):(m^e%(p*q))^d%(p*q)=m:=by
 rw[←Nat.pow_mod,←Nat.pow_mul]
 have a1:m^(e*d)%p=m%p:=by rw[hp.pow_red (by omega),h1,Nat.pow_one]
 have a2:m^(e*d)%q=m%q:=by rw[hq.pow_red (by omega),h2,Nat.pow_one]
 rw[crt_eq (hp.cop2 hq hne) a1 a2]
 exact Nat.mod_eq_of_lt hm
structure MethK(ty fR fW fS fZ:Nat):Prop where
 nR:∀(d:Nat) (w:World),(nilAhead 343 ty (ptr d) "Reset").run Tryz.prog w=.ok (some false) w
 nW:∀(d:Nat) (w:World),(nilAhead 343 ty (ptr d) "Write").run Tryz.prog w=.ok (some false) w
 nS:∀(d:Nat) (w:World),(nilAhead 343 ty (ptr d) "Sum").run Tryz.prog w=.ok (some false) w
 nZ:∀(d:Nat) (w:World),(nilAhead 343 ty (ptr d) "Size").run Tryz.prog w=.ok (some false) w
 mR:∀(d:Nat) (w:World),(method 343 ty (ptr d) "Reset").run Tryz.prog w=.ok (fR,ptr d) w
 mW:∀(d:Nat) (w:World),(method 343 ty (ptr d) "Write").run Tryz.prog w=.ok (fW,ptr d) w
 mS:∀(d:Nat) (w:World),(method 343 ty (ptr d) "Sum").run Tryz.prog w=.ok (fS,ptr d) w
 mZ:∀(d:Nat) (w:World),(method 343 ty (ptr d) "Size").run Tryz.prog w=.ok (fZ,ptr d) w
 eR:∀(args:Array Value) (w:World),(callFunc fR args).run Tryz.prog w=.ok (.enter fR args) w
 eW:∀(args:Array Value) (w:World),(callFunc fW args).run Tryz.prog w=.ok (.enter fW args) w
 eS:∀(args:Array Value) (w:World),(callFunc fS args).run Tryz.prog w=.ok (.enter fS args) w
 eZ:∀(args:Array Value) (w:World),(callFunc fZ args).run Tryz.prog w=.ok (.enter fZ args) w
structure HashC(fR fW fS fZ kb:Nat)(AT:World→Nat→List Nat→Prop)(H:List Nat→List Nat)(n:Nat):Prop where
 ok:HashOk H n
 lo:28≤n
 hi:n≤64
 up:∀{w w':World} {d:Nat} {M S:List Nat},AT w d M→Mod S w w'→d∉S→kb∉S→AT w' d M
 lt:∀{w:World} {d:Nat} {M:List Nat},AT w d M→d<w.heap.size∧kb<w.heap.size∧kb≠d
 ne:∀{w:World} {d b:Nat} {M:List Nat} {vs:List Value},AT w d M→Blk w b 5 vs→b≠d∧b≠kb
 reset:∀(w:World) (d:Nat) (M:List Nat),AT w d M→Calls Tryz.prog fR #[ptr d] w fun e w'=>e=.returned (.tuple #[])∧Mod [d] w w'∧AT w' d []
 write:∀(w:World) (d:Nat) (M:List Nat) (v:Value) (P:List Nat),AT w d M→SliceB w v P→Apart v d→P.length≤20000→M.length≤20000→(0<P.length∨M=[]) →
  Calls Tryz.prog fW #[ptr d,v] w fun e w'=>e=.returned (.tuple #[i64 P.length,.nilIface])∧Mod [d] w w'∧AT w' d (M++P)
 sum:∀(w:World) (d:Nat) (M:List Nat) (base:Nat) (v:Value),AT w d M→Own u8 5 w base v []→base≤w.heap.size→M.length≤40000 →
  Calls Tryz.prog fS #[ptr d,v] w fun e w'=>∃v',e=.returned v'∧Own u8 5 w' base v' (H M)∧Mod v.ownBlock.toList w w'
 size:∀(w:World) (d:Nat) (M:List Nat),AT w d M→Calls Tryz.prog fZ #[ptr d] w fun e w'=>e=.returned (i64 n)∧w'=w
theorem Own.zero{k:Nat→Value}{T:Nat}{w:World}{base g n c:Nat}{L:List Nat}(h:Own k T w base (sl g 0 n c) L):Own k T w base (sl g 0 0 c) []:=by
 rcases h.blk with⟨e,_⟩|⟨g',cap,rest,e,hb,hg,hc,hm⟩
 ·cases e
 ·simp only[Value.slice.injEq,Option.some.injEq,Addr.mk.injEq]at e
  obtain⟨⟨rfl,_⟩,_,rfl⟩:=e
  exact Own.ofBlk (L:=[]) (rest:=L.map k++rest) hb hg (by simpa using hc) hm
def xorAt(H:List Nat→List Nat)(h:Nat)(S:List Nat)(o t:Nat)(E:List Nat):List Nat:=(List.range E.length).map fun j=>if o≤j∧j<o+t then nth E j ^^^ mgfB H h S (j-o)else nth E j
theorem xorAt_length(H:List Nat→List Nat)(h:Nat)(S:List Nat)(o t:Nat)(E:List Nat):(xorAt H h S o t E).length=E.length:=by simp[xorAt]
theorem nth_xorAt{H:List Nat→List Nat}{h:Nat}{S:List Nat}{o t:Nat}{E:List Nat}{j:Nat}(hj:j<E.length):nth (xorAt H h S o t E) j=if o≤j∧j<o+t then nth E j ^^^ mgfB H h S (j-o)else nth E j:=by simp[nth,xorAt,hj]
theorem xorAt_zero(H:List Nat→List Nat)(h:Nat)(S:List Nat)(o:Nat)(E:List Nat):xorAt H h S o 0 E=E:=list_ext (xorAt_length ..) fun j hj=>by
 rw[xorAt_length]at hj
 rw[nth_xorAt hj,if_neg (by omega)]
theorem xorAt_next{H:List Nat→List Nat}{h:Nat}{S:List Nat}{o t:Nat}{E:List Nat}{v:Nat}(_:o+t<E.length)(hv:v=nth E (o+t) ^^^ mgfB H h S t):(xorAt H h S o t E).set (o+t) v=xorAt H h S o (t+1) E:=list_ext (by simp[xorAt_length]) fun j hj=>by
 rw[List.length_set,xorAt_length]at hj
 by_cases e:o+t=j
 ·subst e
  rw[nth_set_same (by rw[xorAt_length];exact hj),nth_xorAt hj,if_pos (by omega),hv,show o+t-o=t by omega]
 ·rw[nth_set_ne e,nth_xorAt hj,nth_xorAt hj]
  by_cases h1:o≤j∧j<o+t
  ·rw[if_pos h1,if_pos (by omega)]
  ·rw[if_neg h1,if_neg (by omega)]
theorem cut_xorAt_apart{H:List Nat→List Nat}{h:Nat}{S:List Nat}{o n a m:Nat}{E:List Nat}(hl:a+m≤E.length)(hd:a+m≤o∨o+n≤a):cut (xorAt H h S o n E) a m=cut E a m:=list_ext (by rw[cut_length,cut_length]) fun j hj=>by
 rw[cut_length]at hj
 rw[nth_cut hj,nth_xorAt (by omega),if_neg (by omega),nth_cut hj]
theorem xorAt_bytes{H:List Nat→List Nat}{h:Nat}(hH:HashOk H h){S:List Nat}{o t:Nat}{E:List Nat}(hE:Bytes E):Bytes (xorAt H h S o t E):=by
 intro i
 by_cases hi:i<E.length
 ·rw[nth_xorAt hi]
  split
  ·exact Nat.xor_lt_two_pow (n:=8) (hE i) (hH.bytes _ _)
  ·exact hE i
 ·rw[nth_ge (by rw[xorAt_length];omega)];omega
end Go.Proofs.YtfgmnbmnpihjdaaGreatDoor
