/- Lemmas of mine for the walk and its plain laws: HzG32 -/
import Derived.Test.YtfgmnbmnpihjdaaGreatDoorM28
set_option linter.all false
set_option exponentiation.threshold 7000000
set_option maxHeartbeats 8000000
namespace Go.Proofs.YtfgmnbmnpihjdaaGreatDoor
open Go.RowKit
set_option maxRecDepth 1000000 in
theorem z_Block32(h:List Int)(lh:h.length=8)(hb ho hc:Nat)(P:List Nat)(pb po pc:Nat)(w:World)(h8:8≤hc)(hh:∀i,i<8→w.cell? ⟨hb,ho+i,none⟩=some (v32 (ith h i)))(hp:∀i,i<64→w.cell? ⟨pb,po+i,none⟩=some (Go.Proofs.YtfgmnbmnpihjdaaGreatDoor.u8 (nth P i)))(hpc:64≤pc) :
 Calls Tryz.prog 73 #[sl hb ho 8 hc,sl pb po 64 pc] w fun e w'=>Mod [] w w'∧∃v,e=.returned v∧∃L:List Int,L.length=8∧OwnI v32 22 w' w.heap.size v L:=by
 have hown0:OwnI v32 22 (w.alloc (.cells #[] 22)) w.heap.size (sl w.heap.size 0 0 0) []:=OwnI.ofBlk (rest:=[]) (Nat.le_refl _) (Blk.new w _ []) rfl (by simp[maxLen])
 have HP:=hide hp
 have HH:=hide hh
 have HHB:=hide (block_lt_of_cell (hh 0 (by omega)))
 clear hp hh lh
 go_enter Tryz.func73,Tryz.ntmps73
 go_wp2_with fail
 go_loopw [5,18] (fun v a wr=>∃(i:Nat) (L:List Int) (vv:Value),a=i64 i∧vv=v∧i≤64∧ZS v32 22 w vv L wr∧L.length=i) (fun _ a _=>64-(intOf a).toNat)
 case atStart=>exact⟨0,[],_,rfl,rfl,by omega,⟨(Mod.refl _ _).alloc _,hown0⟩,rfl⟩
 case round=>
  obtain⟨i,L,vv,rfl,rfl,hi,hZ,hL⟩:=hrel
  by_cases hR:i<64
  ·have g:(i:Int)<64:=by omega
   have ei:IntKind.i64.wrap ((i:Int)+1)=((i+1:Nat):Int):=by rw[IntKind.wrap_i64];omega
   have HLL:=hide hL
   have ll:L.length<900000:=by omega
   by_cases h16:i<16
   ·obtain⟨q,hq⟩:∃q,q=4*i:=⟨_,rfl⟩
    have g16:(i:Int)<16:=by omega
    have c0:=HP.out q (by omega)
    have c1:=HP.out (q+1) (by omega)
    have c2:=HP.out (q+2) (by omega)
    have c3:=HP.out (q+3) (by omega)
    have HQ:=hide hq
    clear hL hq
    go_upto_region 6 with fail
    refine zp6_32 _ wr w vv i pb po pc q (q+1) (q+2) (q+3) _ _ _ _ L _ _ _ _ _ _ _ _ _ _ _ _ _ _ _ _ _ _ _ _ _ _ _ _ _ _ _ _ _ _ _ _ _ _ _ _ _ _ _ _ _ _ _ _ _ _ _ _ _ _ _ _ _ _ _ _ _ _ _ _ _ _ _ _ _ _ _ _ _ _ _ _ _ _ _ _ _ _ _ _ _ _ _ _ _ _ _ _ _ _ _ _ _ _ _ _ _ _ _ _ _ _ _ _ _ _ _ _ _ _ _ _ _ _ _ _ _ _ _ _ _ _ _ _ _ _ _ _ _ _ _ _ _ _ _ _ _ _ _ _ _ _ _ _ _ _ _ _ _ _ _ _ _ _ _ _ _ _ _ _ _ _ _ _ _ _ _ _ _ _ _ _ _ _ _ _ _ _ _ _ _ _ _ _ _ _ _ _ _ _ _ _ _ _ _ _ _ _ _ _ _ _ _ _ _ _ _ _ _ _ _ _ _ _ _ _ _ _ _ _ _ _ ll h16 HQ.out rfl rfl rfl c0 c1 c2 c3 hZ ?_
    intros
    rename_i v' w' z hnew
    clear c0 c1 c2 c3 hZ
    go_wp2_with fail
    go_roundw
    case rel=>exact⟨i+1,_,v',by first|rfl|(simp[Go.Proofs.YtfgmnbmnpihjdaaGreatDoor.i64];done),rfl,by omega,hnew,by rw[List.length_append,HLL.out];rfl⟩
    case measure=>simp[intOf];omega
   ·obtain⟨g1,cc,rfl,hgb,hcc,hcell⟩:=hZ.o.slice (by omega)
    have g16:¬(i:Int)<16:=by omega
    have p2:=hcell (i-2) (by omega)
    have p15:=hcell (i-15) (by omega)
    obtain⟨x,hx⟩:∃x,x=ith L (i-2):=⟨_,rfl⟩
    obtain⟨y,hy⟩:∃y,y=ith L (i-15):=⟨_,rfl⟩
    rw[←hx]at p2
    rw[←hy]at p15
    rw[hL]at hZ ⊢
    have HI:=hide h16
    clear hx hy hcell hL h16 hcc
    go_upto_region 7 with fail
    refine zp7_32 _ wr g1 i cc (i-2) (i-15) x y _ _ _ _ _ _ _ _ _ _ _ _ _ _ _ _ _ _ _ _ _ _ _ _ _ _ _ _ _ _ _ _ _ _ _ _ _ _ _ _ _ _ _ _ _ _ _ _ _ _ _ _ _ _ _ _ _ _ _ _ _ _ _ _ _ _ _ _ _ _ _ _ _ _ _ _ _ _ _ _ _ _ _ _ _ _ _ _ _ _ _ _ _ _ _ _ _ _ _ _ _ _ _ _ _ _ _ _ _ _ _ _ _ _ _ _ _ _ _ _ _ _ _ _ _ _ _ _ _ _ _ _ _ _ _ _ _ _ _ _ _ _ _ _ _ _ _ _ _ _ _ _ _ _ _ _ _ _ _ _ _ _ _ _ _ _ _ _ _ _ _ _ _ _ _ _ _ _ _ _ _ _ _ _ _ _ _ _ _ _ _ _ _ _ _ _ _ _ _ _ _ _ _ _ _ _ _ _ _ _ _ _ _ _ _ _ _ _ _ _ _ _ _ hR (by have:=HI.out;omega) (by have:=HI.out;omega) p2 p15 ?_
    intros
    rename_i n1
    clear p2 p15
    apply_assumption
    have hZ1:=hZ.drewN n1
    refine zp8_32 _ _ w g1 i cc (i-7) (i-16) x y _ _ L _ _ _ _ _ _ _ _ _ _ _ _ _ _ _ _ _ _ _ _ _ _ _ _ _ _ _ _ _ _ _ _ _ _ _ _ _ _ _ _ _ _ _ _ _ _ _ _ _ _ _ _ _ _ _ _ _ _ _ _ _ _ _ _ _ _ _ _ _ _ _ _ _ _ _ _ _ _ _ _ _ _ _ _ _ _ _ _ _ _ _ _ _ _ _ _ _ _ _ _ _ _ _ _ _ _ _ _ _ _ _ _ _ _ _ _ _ _ _ _ _ _ _ _ _ _ _ _ _ _ _ _ _ _ _ _ _ _ _ _ _ _ _ _ _ _ _ _ _ _ _ _ _ _ _ _ _ _ _ _ _ _ _ _ _ _ _ _ _ _ _ _ _ _ _ _ _ _ _ _ _ _ _ _ _ _ _ _ _ _ _ _ _ _ _ _ _ _ _ _ _ _ _ _ _ _ _ _ _ _ _ _ _ _ _ _ _ _ _ _ _ HLL.out hR (by have:=HI.out;omega) (by have:=HI.out;omega) rfl rfl hZ1 ?_
    intros
    rename_i v' w' z hnew
    clear hZ hZ1
    go_wp2_with fail
    go_roundw
    case rel=>exact⟨i+1,_,v',by first|rfl|(simp[Go.Proofs.YtfgmnbmnpihjdaaGreatDoor.i64];done),rfl,by omega,hnew,by rw[List.length_append,HLL.out];rfl⟩
    case measure=>simp[intOf];omega
  ·obtain rfl:i=64:=by omega
   have g:¬((64:Nat):Int)<64:=by omega
   obtain⟨wb,wc,rfl,hwb,hwc,hwcell⟩:=hZ.o.slice (by omega)
   rw[hL]at hZ hwcell ⊢
   have HL:=hide hL
   have HZ:=hide hZ
   have hm:=hZ.m
   clear hL hwcell hwc hi hR hZ
   go_wp2_with fail
   refine(z_Constants _).mono ?_
   rintro e w1 ⟨m1,v1,L1,rfl,l1,o1⟩
   obtain⟨kb,kc,rfl,hkb,hkc,hkcell⟩:=o1.slice (by omega)
   have HK:=hide hkcell
   rw[l1]at HK ⊢
   have hm1:=hm.then1 m1
   have HZ1:=hide (HZ.out.up m1)
   have hs1:=hm1.size
   clear HZ o1 hkcell hkc m1 hm
   have hv0:OwnI v32 22 (w1.alloc (.cells #[] 22)) w1.heap.size (sl w1.heap.size 0 0 0) []:=OwnI.ofBlk (rest:=[]) (Nat.le_refl _) (Blk.new w1 _ []) rfl (by simp[maxLen])
   have hMA:Mod [] w1 (w1.alloc (.cells #[] 22)):=(Mod.refl [] w1).alloc _
   have hcH:∀j,j<8→(w1.alloc (.cells #[] 22)).cell? ⟨hb,ho+j,none⟩=some (v32 (ith ((List.range 8).map (ith h)) j)):=fun j hj=>by
    rw[cell_up0 (cell_up0 (HH.out j hj) hm1) hMA]
    have:ith ((List.range 8).map (ith h)) j=ith h j:=by simp[ith,hj]
    rw[this]
   have HCH:=hide hcH
   clear hcH
   go_wp2_with (at_builtin;refine wpl_pushI rfl _ _ _ rfl _ hb ho 8 hc rfl rfl v32 rfl Tryz.underlying86 info_u32 (by omega) (fun _=>rfl) hMA hv0 (by simp) HCH.out (by simp) ?_)
   intro v2 w2 o2 m2
   obtain⟨L2,hL2⟩:∃L2:List Int,L2=[ith h 0,ith h 1,ith h 2,ith h 3,ith h 4,ith h 5,ith h 6,ith h 7]:=⟨_,rfl⟩
   have l2:L2.length=8:=by rw[hL2];rfl
   rw[←hL2]at o2
   obtain⟨vb,vc,rfl,hvb,hvc,hvcell⟩:=o2.slice (by omega)
   rw[l2]at o2 ⊢
   have HZ2:=hide (HZ1.out.up m2)
   have HK2:=hide (fun w' (m:Mod [] w2 w') j (hj:j<80)=>cell_up0 (cell_up0 (HK.out j hj) m2) m)
   have hm2:=hm1.then1 m2
   have hs2:=hm2.size
   have o2':OwnI v32 22 w2 w.heap.size (sl vb 0 8 vc) L2:=o2.base hs1
   have HO2:=hide o2'
   clear hL2 o2 o2' hvcell hvc HZ1 HK hv0 hMA HCH m2
   go_wp2_with fail
   go_loopw [10,106] (fun v a wr=>∃(i gb gc:Nat) (Lv:List Int),a=i64 i∧v=sl gb 0 8 gc∧i≤64∧Mod [] w2 wr∧OwnI v32 22 wr w.heap.size (sl gb 0 8 gc) Lv∧Lv.length=8) (fun _ a _=>64-(intOf a).toNat)
   case atStart=>exact⟨0,vb,vc,L2,rfl,rfl,by omega,Mod.refl _ _,HO2.out,l2⟩
   case round=>
    obtain⟨i,gb,gc,Lv,rfl,rfl,hi,hm3,ov,lv⟩:=hrel
    by_cases hR:i<64
    ·have g:(i:Int)<64:=by omega
     have ei:IntKind.i64.wrap ((i:Int)+1)=((i+1:Nat):Int):=by rw[IntKind.wrap_i64];omega
     obtain⟨g',c',e,_,_,hc8⟩:=ov.slice (by omega)
     simp only[Value.slice.injEq,Option.some.injEq,Addr.mk.injEq]at e
     obtain⟨⟨rfl,_⟩,_,rfl⟩:=e
     rw[lv]at hc8
     have q0:=hc8 0 (by omega)
     have q1:=hc8 1 (by omega)
     have q2:=hc8 2 (by omega)
     have q3:=hc8 3 (by omega)
     have q4:=hc8 4 (by omega)
     have q5:=hc8 5 (by omega)
     have q6:=hc8 6 (by omega)
     have q7:=hc8 7 (by omega)
     have pk:=HK2.out _ hm3 i (by omega)
     have pw:=(HZ2.out.up hm3).cell (j:=i) (by rw[HL.out];omega)
     rw[←Nat.zero_add i]at pk
     clear hc8
     go_upto_region 15 with fail
     refine zp15_32 _ wr gb gc _ _ _ _ _ _ _ _ _ _ _ _ _ _ _ _ _ _ _ _ _ _ _ _ _ _ _ _ _ _ _ _ _ _ _ _ _ _ _ _ _ _ _ _ _ _ _ _ _ _ _ _ _ _ _ _ _ _ _ _ _ _ _ _ _ _ _ _ _ _ _ _ _ _ _ _ _ _ _ _ _ _ _ _ _ _ _ _ _ _ _ _ _ _ _ _ _ _ _ _ _ _ _ _ _ _ _ _ _ _ _ _ _ _ _ _ _ _ _ _ _ _ _ _ _ _ _ _ _ _ _ _ _ _ _ _ _ _ _ _ _ _ _ _ _ _ _ _ _ _ _ _ _ _ _ _ _ _ _ _ _ _ _ _ _ _ _ _ _ _ _ _ _ _ _ _ _ _ _ _ _ _ _ _ _ _ _ _ _ _ _ _ _ _ _ _ _ _ _ _ _ _ _ _ _ _ _ _ _ _ _ _ _ _ _ _ _ _ _ _ _ _ _ _ _ _ q0 q4 ?_
     intros
     rename_i n1
     apply_assumption
     go_upto_region 16 with fail
     refine zp16_32 _ _ gb gc i kb 0 kc wb wc _ _ _ _ _ _ _ _ _ _ _ _ _ _ _ _ _ _ _ _ _ _ _ _ _ _ _ _ _ _ _ _ _ _ _ _ _ _ _ _ _ _ _ _ _ _ _ _ _ _ _ _ _ _ _ _ _ _ _ _ _ _ _ _ _ _ _ _ _ _ _ _ _ _ _ _ _ _ _ _ _ _ _ _ _ _ _ _ _ _ _ _ _ _ _ _ _ _ _ _ _ _ _ _ _ _ _ _ _ _ _ _ _ _ _ _ _ _ _ _ _ _ _ _ _ _ _ _ _ _ _ _ _ _ _ _ _ _ _ _ _ _ _ _ _ _ _ _ _ _ _ _ _ _ _ _ _ _ _ _ _ _ _ _ _ _ _ _ _ _ _ _ _ _ _ _ _ _ _ _ _ _ _ _ _ _ _ _ _ _ _ _ _ _ _ _ _ _ _ _ _ _ _ _ _ _ _ _ _ _ _ _ _ _ _ _ _ _ _ _ _ _ _ _ _ _ (cell_drewN q5) (cell_drewN q6) (cell_drewN q7) hR (cell_drewN pk) (cell_drewN pw) ?_
     intros
     rename_i n2 z1
     apply_assumption
     go_upto_region 17 with fail
     refine zp17_32 _ _ gb gc _ _ _ _ _ _ _ _ _ _ _ _ _ _ _ _ _ _ _ _ _ _ _ _ _ _ _ _ _ _ _ _ _ _ _ _ _ _ _ _ _ _ _ _ _ _ _ _ _ _ _ _ _ _ _ _ _ _ _ _ _ _ _ _ _ _ _ _ _ _ _ _ _ _ _ _ _ _ _ _ _ _ _ _ _ _ _ _ _ _ _ _ _ _ _ _ _ _ _ _ _ _ _ _ _ _ _ _ _ _ _ _ _ _ _ _ _ _ _ _ _ _ _ _ _ _ _ _ _ _ _ _ _ _ _ _ _ _ _ _ _ _ _ _ _ _ _ _ _ _ _ _ _ _ _ _ _ _ _ _ _ _ _ _ _ _ _ _ _ _ _ _ _ _ _ _ _ _ _ _ _ _ _ _ _ _ _ _ _ _ _ _ _ _ _ _ _ _ _ _ _ _ _ _ _ _ _ _ _ _ _ _ _ _ _ _ _ _ _ _ _ _ _ _ _ _ (cell_drewN (cell_drewN q1)) (cell_drewN (cell_drewN q2)) ?_
     intros
     rename_i n3 z2
     apply_assumption
     obtain⟨w4,hw4⟩:∃w4,w4=((wr.drewN n1).drewN n2).drewN n3:=⟨_,rfl⟩
     have m34:Mod [] wr w4:=by rw[hw4];exact(((Mod.refl [] wr).drewN _).drewN _).drewN _
     have hm4:=hm3.then1 m34
     rw[←hw4]
     clear hw4
     go_upto_region 18 with fail
     refine zp18_32 _ w4 gb gc _ _ _ _ _ _ _ _ _ _ _ _ _ _ _ _ _ _ _ _ _ _ _ _ _ _ _ _ _ _ _ _ _ _ _ _ _ _ _ _ _ _ _ _ _ _ _ _ _ _ _ _ _ _ _ _ _ _ _ _ _ _ _ _ _ _ _ _ _ _ _ _ _ _ _ _ _ _ _ _ _ _ _ _ _ _ _ _ _ _ _ _ _ _ _ _ _ _ _ _ _ _ _ _ _ _ _ _ _ _ _ _ _ _ _ _ _ _ _ _ _ _ _ _ _ _ _ _ _ _ _ _ _ _ _ _ _ _ _ _ _ _ _ _ _ _ _ _ _ _ _ _ _ _ _ _ _ _ _ _ _ _ _ _ _ _ _ _ _ _ _ _ _ _ _ _ _ _ _ _ _ _ _ _ _ _ _ _ _ _ _ _ _ _ _ _ _ _ _ _ _ _ _ _ _ _ _ _ _ _ _ _ _ _ _ _ _ _ _ _ _ _ _ _ _ _ _ _ _ _ _ (cell_up0 q0 m34) (cell_up0 q1 m34) (cell_up0 q2 m34) (cell_up0 q3 m34) (cell_up0 q4 m34) (cell_up0 q5 m34) (cell_up0 q6 m34) ?_
     intros
     rename_i y0 y1 y2 y3 y4 y5 y6 y7
     have o5:OwnI v32 22 (w4.alloc (.cells #[v32 y0,v32 y1,v32 y2,v32 y3,v32 y4,v32 y5,v32 y6,v32 y7] 22)).drew w.heap.size (sl w4.heap.size 0 8 8) [y0,y1,y2,y3,y4,y5,y6,y7]:=
      (OwnI.made v32 22 [v32 y0,v32 y1,v32 y2,v32 y3,v32 y4,v32 y5,v32 y6,v32 y7] rfl (by have:=hm4.size;omega) rfl rfl (by simp[maxLen])).mod (Mod.refl [] _).drew (by simp)
     have m5:Mod [] w2 (w4.alloc (.cells #[v32 y0,v32 y1,v32 y2,v32 y3,v32 y4,v32 y5,v32 y6,v32 y7] 22)).drew:=(hm4.alloc _).drew
     have HO5:=hide o5
     have HM5:=hide m5
     clear o5 m5 q0 q1 q2 q3 q4 q5 q6 q7 pk pw ov hm3 m34
     go_wp2_with fail
     go_roundw
     case rel=>exact⟨i+1,_,_,_,by first|rfl|(simp[Go.Proofs.YtfgmnbmnpihjdaaGreatDoor.i64];done),rfl,by omega,HM5.out,HO5.out,rfl⟩
     case measure=>simp[intOf];omega
    ·obtain rfl:i=64:=by omega
     have g:¬((64:Nat):Int)<64:=by omega
     have HH3:=hide (fun w' (m:Mod [] w w') j (hj:j<8)=>cell_up0 (HH.out j hj) m)
     have hm5:=hm2.then1 hm3
     have HOV:=hide ov
     clear HK2 HZ2 ov hi hR hm3
     go_wp2_with fail
     go_loopw [210] (fun a wr=>∃(i:Nat) (Lv:List Int),a=i64 i∧i≤8∧Mod [] w wr∧OwnI v32 22 wr w.heap.size (sl gb 0 8 gc) Lv∧Lv.length=8) (fun a _=>8-(intOf a).toNat)
     case atStart=>exact⟨0,Lv,rfl,by omega,hm5,HOV.out,lv⟩
     case round=>
      obtain⟨i,Lx,rfl,hi,hmx,ox,lx⟩:=hrel
      by_cases h8i:i<8
      ·have g:(i:Int)<8:=by omega
       have ei:IntKind.i64.wrap ((i:Int)+1)=((i+1:Nat):Int):=by rw[IntKind.wrap_i64];omega
       rcases ox.blk with⟨e,_⟩|⟨g',c',rest,e,hgb2,hB,hcap,hmax⟩
       ·cases e
       ·simp only[Value.slice.injEq,Option.some.injEq,Addr.mk.injEq]at e
        obtain⟨⟨rfl,_⟩,_,rfl⟩:=e
        have px:=hB.atl i (by omega)
        have fx:=hB.frozen i
        have py:=HH3.out _ hmx i h8i
        go_upto_region 23 with fail
        refine zp23_32 _ wr gb gc i hb ho hc _ _ _ _ _ _ _ _ _ _ _ _ _ _ _ _ _ _ _ _ _ _ _ _ _ _ _ _ _ _ _ _ _ _ _ _ _ _ _ _ _ _ _ _ _ _ _ _ _ _ _ _ _ _ _ _ _ _ _ _ _ _ _ _ _ _ _ _ _ _ _ _ _ _ _ _ _ _ _ _ _ _ _ _ _ _ _ _ _ _ _ _ _ _ _ _ _ _ _ _ _ _ _ _ _ _ _ _ _ _ _ _ _ _ _ _ _ _ _ _ _ _ _ _ _ _ _ _ _ _ _ _ _ _ _ _ _ _ _ _ _ _ _ _ _ _ _ _ _ _ _ _ _ _ _ _ _ _ _ _ _ _ _ _ _ _ _ _ _ _ _ _ _ _ _ _ _ _ _ _ _ _ _ _ _ _ _ _ _ _ _ _ _ _ _ _ _ _ _ _ _ _ _ _ _ _ _ _ _ _ _ _ _ _ _ _ _ _ _ _ _ _ _ _ h8i px fx py ?_
        intros
        rename_i z
        have hB2:Blk (wr.setCell ⟨gb,i,none⟩ (v32 z)).drew gb 22 ((Lx.set i z).map v32++rest):=by
         have h:=hB.setCell i (v32 z)
         rw[List.set_append_left _ _ (by simp;omega),←List.map_set]at h
         exact h.drew
        have o6:OwnI v32 22 (wr.setCell ⟨gb,i,none⟩ (v32 z)).drew w.heap.size (sl gb 0 8 gc) (Lx.set i z):=by
         have h:=OwnI.ofBlk (cap:=gc) hgb2 hB2 (by rw[List.length_set];exact hcap) hmax
         rwa [List.length_set,lx]at h
        have m6:Mod [] w (wr.setCell ⟨gb,i,none⟩ (v32 z)).drew:=(hmx.setCell _ _ (fun h=>absurd h (Nat.not_lt.2 hgb2))).drew
        have HO6:=hide o6
        clear px fx py o6 hB hB2 ox hmx
        go_wp2_with fail
        go_roundw
        case rel=>exact⟨i+1,_,by first|rfl|(simp[Go.Proofs.YtfgmnbmnpihjdaaGreatDoor.i64];done),by omega,m6,HO6.out,by rw[List.length_set];exact lx⟩
        case measure=>simp[intOf];omega
      ·obtain rfl:i=8:=by omega
       have g:¬((8:Nat):Int)<8:=by omega
       have HO6:=hide ox
       clear ox HOV HH3 hm5
       go_wp2_with fail
       go_ret
       exact⟨hmx,_,rfl,Lx,lx,HO6.out⟩
end Go.Proofs.YtfgmnbmnpihjdaaGreatDoor
