/- Lemmas of mine for the walk and its plain laws: SpecZ -/
import Derived.Test.YtfgmnbmnpihjdaaGreatDoorM24
import Derived.Deep.DeepCutAuto
import Derived.Deep.RegionHeld3
import Derived.Deep.LoopGhost
import Derived.Deep.CutBlock
set_option linter.all false
set_option exponentiation.threshold 7000000
set_option maxHeartbeats 40000000
namespace Go.Proofs.YtfgmnbmnpihjdaaGreatDoor
open Go.RowKit
theorem boxes4(w:World)(x y:Bool)(a b:Option Addr)(k c n d:Nat) :
 (let w':=((((w.alloc (.cells #[.bool x,.slice a k c] 80)).alloc (.cells #[.bool y,.slice b n d] 80)).alloc (.cells #[.bool false,.slice none 0 0] 80)).alloc (.cells #[.bool false,.slice none 0 0] 80))
  Mod [] w w'∧Blk w' w.heap.size 80 [.bool x,.slice a k c]∧Blk w' (w.heap.size+1) 80 [.bool y,.slice b n d]∧IntBlk w' (w.heap.size+1+1)∧IntBlk w' (w.heap.size+1+1+1)):=by
 have h1:=(((Blk.new w 80 [.bool x,.slice a k c]).alloc (.cells #[.bool y,.slice b n d] 80)).alloc (.cells #[.bool false,.slice none 0 0] 80)).alloc (.cells #[.bool false,.slice none 0 0] 80)
 have h2:=((Blk.new (w.alloc (.cells #[.bool x,.slice a k c] 80)) 80 [.bool y,.slice b n d]).alloc (.cells #[.bool false,.slice none 0 0] 80)).alloc (.cells #[.bool false,.slice none 0 0] 80)
 have h3:=(intBlk_new ((w.alloc (.cells #[.bool x,.slice a k c] 80)).alloc (.cells #[.bool y,.slice b n d] 80))).mod ((Mod.refl [] _).alloc (.cells #[.bool false,.slice none 0 0] 80))
 have h4:=intBlk_new (((w.alloc (.cells #[.bool x,.slice a k c] 80)).alloc (.cells #[.bool y,.slice b n d] 80)).alloc (.cells #[.bool false,.slice none 0 0] 80))
 simp only[World.size_alloc]at h2 h3 h4
 exact⟨(((Mod.refl [] w).alloc _).alloc _).alloc _ |>.alloc _,h1,h2,h3,h4⟩
theorem IntIs.blen{w:World}{b:Bool}{a:Option Addr}{n c k:Nat}(h:IntIs w (.agg #[.bool b,.slice a n c]) (k:Int)):b=false∧∃L,L.length=n∧SliceK i64 w (.slice a n c) L∧Canon L∧valS L=k:=by
 obtain⟨s,L,h1,h2,h3,h4⟩:=h
 simp only[Value.agg.injEq,Array.mk.injEq,List.cons.injEq,and_true,Value.bool.injEq]at h1
 obtain⟨h1,rfl⟩:=h1
 obtain⟨a',c',h5⟩:=h2.lit
 simp only[Value.slice.injEq]at h5
 refine⟨by rw[h1];exact decide_eq_false (by omega),L,h5.2.1.symm,h2,h3,by simpa using h4⟩
def BzS(w:World)(aa ab:Option Addr)(n1 c1 n2 c2:Nat)(w':World):Prop:=w'.cell? ⟨w.heap.size,1,none⟩=some (.slice aa n1 c1)∧w'.cell? ⟨w.heap.size+1,1,none⟩=some (.slice ab n2 c2)∧Mod [] w w'∧Blk w' w.heap.size 80 [.bool false,.slice aa n1 c1]∧Blk w' (w.heap.size+1) 80 [.bool false,.slice ab n2 c2]∧IntBlk w' (w.heap.size+1+1)∧IntBlk w' (w.heap.size+1+1+1)
theorem BzS.up{w w1 w2:World}{aa ab:Option Addr}{n1 c1 n2 c2:Nat}(h:BzS w aa ab n1 c1 n2 c2 w1)(m:Mod [] w1 w2):BzS w aa ab n1 c1 n2 c2 w2:=
 ⟨cell_mod m h.1,cell_mod m h.2.1,h.2.2.1.then m,blk_up h.2.2.2.1 m,blk_up h.2.2.2.2.1 m,h.2.2.2.2.2.1.mod m,h.2.2.2.2.2.2.mod m⟩
theorem BzS.put{w w1:World}{aa ab a:Option Addr}{n1 c1 n2 c2 p n c:Nat}{b:Bool}(h:BzS w aa ab n1 c1 n2 c2 w1)(hp:w.heap.size+1+1+1<p):BzS w aa ab n1 c1 n2 c2 (putInt w1 p b a n c):=by
 obtain⟨h1,h2,h3,h4,h5,h6,h7⟩:=h
 have k4:Blk (putInt w1 p b a n c) w.heap.size 80 [.bool false,.slice aa n1 c1]:=(h4.setCell_other _ _ (show _≠p by omega)).setCell_other _ _ (show _≠p by omega)
 have k5:Blk (putInt w1 p b a n c) (w.heap.size+1) 80 [.bool false,.slice ab n2 c2]:=(h5.setCell_other _ _ (show _≠p by omega)).setCell_other _ _ (show _≠p by omega)
 exact⟨(int_cells k4).2.1,(int_cells k5).2.1,putInt_mod h3 (by omega),k4,k5,h6.put,h7.put⟩
theorem bz_fin{w W:World}{aa ab:Option Addr}{n1 c1 n2 c2 P Q a b:Nat}(hV:BzS w aa ab n1 c1 n2 c2 W)(hP:IntBox W P (a:Int))(hQ:IntBox W Q (b:Int))(hne:P≠Q)(gP:w.heap.size+1+1+1<P)(gQ:w.heap.size+1+1+1<Q) :
 ∃p q,ptr P=ptr p∧ptr Q=ptr q∧Mod [] w W∧w.heap.size≤p∧w.heap.size≤q∧p≠q∧IntBox W p (a:Int)∧IntBox W q (b:Int)∧Blk W w.heap.size 80 [.bool false,.slice aa n1 c1]∧Blk W (w.heap.size+1) 80 [.bool false,.slice ab n2 c2]∧IntBlk W (w.heap.size+1+1)∧IntBlk W (w.heap.size+1+1+1)∧w.heap.size+1+1+1<p∧w.heap.size+1+1+1<q:=by
 obtain⟨-,-,h3,h4,h5,h6,h7⟩:=hV
 exact⟨P,Q,rfl,rfl,h3,by omega,by omega,hne,hP,hQ,h4,h5,h6,h7,gP,gQ⟩
theorem results_ti2{fn:Func}{i t u p q:Nat}{tmps:Array Value}{v x:Value}{w:World}(h:fn.results=#[.tmp i,.cell t 80,.cell u 80])(hp:tmps.getD t undef=.pointer (some ⟨p,0,none⟩))(hq:tmps.getD u undef=.pointer (some ⟨q,0,none⟩))(hv:IntAt w p v)(hx:IntAt w q x) :
 (results fn tmps).run Tryz.prog w=.ok (.tuple #[tmps.getD i undef,v,x]) w:=by
 obtain⟨c0,c1,rfl,h0,h1⟩:=hv
 obtain⟨d0,d1,rfl,g0,g1⟩:=hx
 have hp2:tmps[t]?.getD undef=.pointer (some ⟨p,0,none⟩):=by simpa using hp
 have hq2:tmps[u]?.getD undef=.pointer (some ⟨q,0,none⟩):=by simpa using hq
 simp[results,h,hp2,hq2,asAddr,load_int h0 h1,load_int g0 g1]
def BzA(w:World)(P7 P8 G9 G10 G11 G12:Nat):Prop:=P7≠P8∧P7<G9∧P8<G9∧G9<G10∧G10<G11∧G11<G12∧w.heap.size+1+1+1<G9∧w.heap.size+1+1+1<P7∧w.heap.size+1+1+1<P8
def BzW(w wx:World)(aa ab:Option Addr)(n1 c1 n2 c2 P7 P8 G9 G10 G11 G12:Nat)(x y:Nat)(p q r s:Int):Prop:=Mod [] w wx∧IntBox wx P7 (x:Int)∧IntBox wx P8 (y:Int)∧IntBox wx G9 p∧IntBox wx G10 q∧IntBox wx G11 r∧IntBox wx G12 s∧Blk wx w.heap.size 80 [.bool false,.slice aa n1 c1]∧Blk wx (w.heap.size+1) 80 [.bool false,.slice ab n2 c2]∧IntBlk wx (w.heap.size+1+1)∧IntBlk wx (w.heap.size+1+1+1)
theorem BzW.up{w wx wy:World}{aa ab:Option Addr}{n1 c1 n2 c2 P7 P8 G9 G10 G11 G12 x y:Nat}{p q r s:Int}(h:BzW w wx aa ab n1 c1 n2 c2 P7 P8 G9 G10 G11 G12 x y p q r s)(m:Mod [] wx wy):BzW w wy aa ab n1 c1 n2 c2 P7 P8 G9 G10 G11 G12 x y p q r s:=by
 obtain⟨h1,h2,h3,h4,h5,h6,h7,h8,h9,h10,h11⟩:=h
 exact⟨h1.then m,h2.up m,h3.up m,h4.up m,h5.up m,h6.up m,h7.up m,blk_up h8 m,blk_up h9 m,h10.mod m,h11.mod m⟩
theorem BzW.step7{w W:World}{aa ab a a':Option Addr}{n1 c1 n2 c2 P7 P8 G9 G10 G11 G12 x y n c n' c':Nat}{b b':Bool}{p q r s z:Int}(h:BzW w W aa ab n1 c1 n2 c2 P7 P8 G9 G10 G11 G12 x y p q r s)(hA:BzA w P7 P8 G9 G10 G11 G12)(i1:IntIs W (.agg #[.bool b,.slice a n c]) r)(i2:IntIs W (.agg #[.bool b',.slice a' n' c']) z) :
 BzW w (putInt (putInt W G9 b a n c) G11 b' a' n' c') aa ab n1 c1 n2 c2 P7 P8 G9 G10 G11 G12 x y r q z s:=by
 obtain⟨d1,d2,d3,d4,d5,d6,d7,d8,d9⟩:=hA
 obtain⟨h1,h2,h3,h4,h5,h6,h7,h8,h9,h10,h11⟩:=h
 have k1:IntBlk W G9:=h4.blk
 have k2:IntBlk (putInt W G9 b a n c) G11:=IntBlk.put h6.blk
 exact⟨putInt_mod (putInt_mod h1 (by omega)) (by omega),(h2.put k1 (by omega)).put k2 (by omega),(h3.put k1 (by omega)).put k2 (by omega),(IntBox.putSame i1 k1).put k2 (by omega),(h5.put k1 (by omega)).put k2 (by omega),IntBox.putSame (i2.put k1) k2,(h7.put k1 (by omega)).put k2 (by omega),(h8.put (by omega)).put (by omega),(h9.put (by omega)).put (by omega),h10.put.put,h11.put.put⟩
theorem BzW.step8{w W:World}{aa ab a a':Option Addr}{n1 c1 n2 c2 P7 P8 G9 G10 G11 G12 x y n c n' c':Nat}{b b':Bool}{p q r s z:Int}(h:BzW w W aa ab n1 c1 n2 c2 P7 P8 G9 G10 G11 G12 x y p q r s)(hA:BzA w P7 P8 G9 G10 G11 G12)(i1:IntIs W (.agg #[.bool b,.slice a n c]) s)(i2:IntIs W (.agg #[.bool b',.slice a' n' c']) z) :
 BzW w (putInt (putInt W G10 b a n c) G12 b' a' n' c') aa ab n1 c1 n2 c2 P7 P8 G9 G10 G11 G12 x y p s r z:=by
 obtain⟨d1,d2,d3,d4,d5,d6,d7,d8,d9⟩:=hA
 obtain⟨h1,h2,h3,h4,h5,h6,h7,h8,h9,h10,h11⟩:=h
 have k1:IntBlk W G10:=h5.blk
 have k2:IntBlk (putInt W G10 b a n c) G12:=IntBlk.put h7.blk
 exact⟨putInt_mod (putInt_mod h1 (by omega)) (by omega),(h2.put k1 (by omega)).put k2 (by omega),(h3.put k1 (by omega)).put k2 (by omega),(h4.put k1 (by omega)).put k2 (by omega),(IntBox.putSame i1 k1).put k2 (by omega),(h6.put k1 (by omega)).put k2 (by omega),IntBox.putSame (i2.put k1) k2,(h8.put (by omega)).put (by omega),(h9.put (by omega)).put (by omega),h10.put.put,h11.put.put⟩
theorem IntBox.put2{w:World}{P g1 g2:Nat}{z:Int}{b b':Bool}{a a':Option Addr}{n c n' c':Nat}(h:IntBox w P z)(k1:IntBlk w g1)(k2:IntBlk w g2)(h1:P≠g1)(h2:P≠g2):IntBox (putInt (putInt w g1 b a n c) g2 b' a' n' c') P z:=(h.put k1 h1).put k2.put h2
set_option maxRecDepth 100000 in
theorem c_Bezout(va vb:Value)(a b:Nat)(w:World)(ha:IntIs w va (a:Int))(hb:IntIs w vb (b:Int))(a0:0<a)(b0:0<b)(la:a+b+2<lim) :
 Calls Tryz.prog 70 #[va,vb] w fun e w'=>∃vg vp vq G p q,e=.returned (.tuple #[vg,vp,vq])∧Mod [] w w'∧SliceK i64 w' vg G∧Canon G∧valS G=Nat.gcd a b∧IntIs w' vp p∧IntIs w' vq q∧p*a+q*b=(Nat.gcd a b:Nat)∧p.natAbs≤b+1:=by
 obtain⟨ba,aa,na,ca,rfl⟩:=ha.lit
 obtain⟨bb,ab,nb,cb,rfl⟩:=hb.lit
 obtain⟨rfl,A,rfl,sA,cA,eA⟩:=ha.blen
 obtain⟨rfl,B,rfl,sB,cB,eB⟩:=hb.blen
 obtain⟨m0,k0,k1,k2,k3⟩:=boxes4 w false false aa ab A.length ca B.length cb
 obtain⟨N1,hN1⟩:∃n,n=A.length:=⟨_,rfl⟩
 obtain⟨N2,hN2⟩:∃n,n=B.length:=⟨_,rfl⟩
 rw[←hN1]at k0 m0 k1 k2 k3 sA ⊢
 rw[←hN2]at k0 m0 k1 k2 k3 sB ⊢
 have C1:=hide (fun w' (m:Mod [] w w')=>c_Make false (.slice aa N1 ca) A w' (sA.mod m (by simp)) cA)
 have C2:=hide (fun w' (m:Mod [] w w')=>c_Make false (.slice ab N2 cb) B w' (sB.mod m (by simp)) cB)
 have EA:=hide eA
 have EB:=hide eB
 obtain⟨q0,q1,q2,q3⟩:=int_cells k0
 obtain⟨r0,r1,r2,r3⟩:=int_cells k1
 have HA:0<N1:=by
  rw[hN1];apply Nat.pos_of_ne_zero;intro h;have:=cA.zero.2 h;omega
 have HB:0<N2:=by
  rw[hN2];apply Nat.pos_of_ne_zero;intro h;have:=cB.zero.2 h;omega
 have HLA:=hide la
 clear ha hb sA sB cA cB eA eB hN1 hN2 la
 go_enter Tryz.func70,Tryz.ntmps70
 go_upto_region 1 with fail
 go_cut [7,8] (fun a7 a8 wx=>∃p q,a7=ptr p∧a8=ptr q∧Mod [] w wx∧w.heap.size≤p∧w.heap.size≤q∧p≠q∧IntBox wx p (a:Int)∧IntBox wx q (b:Int)∧Blk wx w.heap.size 80 [.bool false,.slice aa N1 ca]∧Blk wx (w.heap.size+1) 80 [.bool false,.slice ab N2 cb]∧IntBlk wx (w.heap.size+1+1)∧IntBlk wx (w.heap.size+1+1+1)∧w.heap.size+1+1+1<p∧w.heap.size+1+1+1<q)
 case first=>
  have hS00:Hid (BzS w aa ab N1 ca N2 cb ((((w.alloc (.cells #[.bool false,.slice aa N1 ca] 80)).alloc (.cells #[.bool false,.slice ab N2 cb] 80)).alloc (.cells #[.bool false,.slice none 0 0] 80)).alloc (.cells #[.bool false,.slice none 0 0] 80))):=hide ⟨q1,r1,m0,k0,k1,k2,k3⟩
  have hS0:Hid (BzS w aa ab N1 ca N2 cb ((((w.alloc (.cells #[.bool false,.slice aa N1 ca] 80)).alloc (.cells #[.bool false,.slice ab N2 cb] 80)).alloc (.cells #[.bool false,.slice none 0 0] 80)).alloc (.cells #[.bool false,.slice none 0 0] 80)).drew):=hide (BzS.up ⟨q1,r1,m0,k0,k1,k2,k3⟩ (Mod.refl [] _).drew)
  go_region_held3 (fun w'=>w'.cell? ⟨w.heap.size,1,none⟩=some (.slice aa N1 ca)∧w'.cell? ⟨w.heap.size+1,1,none⟩=some (.slice ab N2 cb)∧Mod [] w w'∧Blk w' w.heap.size 80 [.bool false,.slice aa N1 ca]∧Blk w' (w.heap.size+1) 80 [.bool false,.slice ab N2 cb]∧IntBlk w' (w.heap.size+1+1)∧IntBlk w' (w.heap.size+1+1+1))
   ((show BzS w aa ab N1 ca N2 cb _;(repeat (first|with_reducible exact hS2|with_reducible exact hS1|with_reducible exact hS0.out|with_reducible exact hS00.out|(with_reducible refine BzS.put ?_ ?_;rotate_left;(focus ((first|omega|(simp only[World.size_alloc,World.size_drew];done)|(simp only[World.size_alloc,World.size_drew];omega)))))|with_reducible refine BzS.up ?_ ((Mod.refl [] _).alloc _)|with_reducible refine BzS.up ?_ ((Mod.refl [] _).drew)));done))
   (first|(go_at_call_of 38 (Value.slice aa N1 ca);have hx:BzS w aa ab N1 ca N2 cb _:=(by assumption);refine(C1.out _ hx.2.2.1).mono ?_;rintro e w1 ⟨v1,rfl,m1,h1⟩;rw[if_neg (by simp),EA.out]at h1;have m01:Mod [] ((((w.alloc (.cells #[.bool false,.slice aa N1 ca] 80)).alloc (.cells #[.bool false,.slice ab N2 cb] 80)).alloc (.cells #[.bool false,.slice none 0 0] 80)).alloc (.cells #[.bool false,.slice none 0 0] 80)).drew w1:=(by first|exact m1|exact((Mod.refl [] _).alloc _).then m1|exact(((Mod.refl [] _).alloc _).alloc _).then m1);have hS1:BzS w aa ab N1 ca N2 cb w1:=hS0.out.up m01;have s1:=m1.size;(try (simp only[World.size_alloc,World.size_drew]at s1));have p1:=True.intro;have p2:=True.intro;(first|(have p1:=((Blk.new ((((w.alloc (.cells #[.bool false,.slice aa N1 ca] 80)).alloc (.cells #[.bool false,.slice ab N2 cb] 80)).alloc (.cells #[.bool false,.slice none 0 0] 80)).alloc (.cells #[.bool false,.slice none 0 0] 80)).drew 80 [.bool false,.slice none 0 0]).alloc _).mod m1 (by simp);have p2:=(Blk.new (((((w.alloc (.cells #[.bool false,.slice aa N1 ca] 80)).alloc (.cells #[.bool false,.slice ab N2 cb] 80)).alloc (.cells #[.bool false,.slice none 0 0] 80)).alloc (.cells #[.bool false,.slice none 0 0] 80)).drew.alloc (.cells #[.bool false,.slice none 0 0] 80)) 80 [.bool false,.slice none 0 0]).mod m1 (by simp))|(have p1:=(Blk.new ((((w.alloc (.cells #[.bool false,.slice aa N1 ca] 80)).alloc (.cells #[.bool false,.slice ab N2 cb] 80)).alloc (.cells #[.bool false,.slice none 0 0] 80)).alloc (.cells #[.bool false,.slice none 0 0] 80)).drew 80 [.bool false,.slice none 0 0]).mod m1 (by simp))|skip);(first|(simp only[World.size_alloc,World.size_drew]at p1)|skip);(first|(have p1f:=int_cells p1;obtain⟨p10,p11,p12,p13⟩:=p1f)|skip);(first|(simp only[World.size_alloc,World.size_drew]at p2)|skip);(first|(have p2f:=int_cells p2;obtain⟨p20,p21,p22,p23⟩:=p2f)|skip);obtain⟨x1,a1,n1,c1,rfl⟩:=h1.lit)|(go_at_call_of 38 (Value.slice ab N2 cb);have hx:BzS w aa ab N1 ca N2 cb _:=(by assumption);refine(C2.out _ hx.2.2.1).mono ?_;rintro e w2 ⟨v2,rfl,m2,h2⟩;rw[if_neg (by simp),EB.out]at h2;have m12:Mod [] w1 w2:=(by first|exact m2|exact((Mod.refl [] w1).alloc _).then m2|exact(((Mod.refl [] w1).alloc _).alloc _).then m2);have hS2:BzS w aa ab N1 ca N2 cb w2:=hS1.up m12;have s2:=m2.size;(try (simp only[World.size_alloc]at s2));(first|(have p1:=blk_up p1 m12;have p1f:=int_cells p1;obtain⟨p10,p11,p12,p13⟩:=p1f)|skip);(first|(have p2:=blk_up p2 m12;have p2f:=int_cells p2;obtain⟨p20,p21,p22,p23⟩:=p2f)|skip);have r1_:=True.intro;have r2_:=True.intro;(first|(have r1_:=((Blk.new w1 80 [.bool false,.slice none 0 0]).alloc _).mod m2 (by simp);have r2_:=(Blk.new (w1.alloc (.cells #[.bool false,.slice none 0 0] 80)) 80 [.bool false,.slice none 0 0]).mod m2 (by simp))|(have r1_:=(Blk.new w1 80 [.bool false,.slice none 0 0]).mod m2 (by simp))|skip);(first|(simp only[World.size_alloc,World.size_drew]at r1_)|skip);(first|(have r1_f:=int_cells r1_;obtain⟨r1_0,r1_1,r1_2,r1_3⟩:=r1_f)|skip);(first|(simp only[World.size_alloc,World.size_drew]at r2_)|skip);(first|(have r2_f:=int_cells r2_;obtain⟨r2_0,r2_1,r2_2,r2_3⟩:=r2_f)|skip);(first|(have p1g:=int_cells (blk_up p1 ((Mod.refl [] w2).alloc (.cells #[.bool false,.slice none 0 0] 80)));obtain⟨p14,p15,p16,p17⟩:=p1g)|skip);(first|(have p2g:=int_cells (blk_up p2 ((Mod.refl [] w2).alloc (.cells #[.bool false,.slice none 0 0] 80)));obtain⟨p24,p25,p26,p27⟩:=p2g)|skip);(first|(have r1_g:=int_cells (blk_up r1_ ((Mod.refl [] w2).alloc (.cells #[.bool false,.slice none 0 0] 80)));obtain⟨r1_4,r1_5,r1_6,r1_7⟩:=r1_g)|skip);(first|(have r2_g:=int_cells (blk_up r2_ ((Mod.refl [] w2).alloc (.cells #[.bool false,.slice none 0 0] 80)));obtain⟨r2_4,r2_5,r2_6,r2_7⟩:=r2_g)|skip);(first|(have p1h:=int_cells (blk_up p1 ((Mod.refl [] w2).alloc (.cells #[.bool x1,.slice a1 n1 c1] 80)));obtain⟨p18,p19,p1a,p1b⟩:=p1h)|skip);(first|(have p2h:=int_cells (blk_up p2 ((Mod.refl [] w2).alloc (.cells #[.bool x1,.slice a1 n1 c1] 80)));obtain⟨p28,p29,p2a,p2b⟩:=p2h)|skip);(first|(have r1_h:=int_cells (blk_up r1_ ((Mod.refl [] w2).alloc (.cells #[.bool x1,.slice a1 n1 c1] 80)));obtain⟨r1_8,r1_9,r1_a,r1_b⟩:=r1_h)|skip);(first|(have r2_h:=int_cells (blk_up r2_ ((Mod.refl [] w2).alloc (.cells #[.bool x1,.slice a1 n1 c1] 80)));obtain⟨r2_8,r2_9,r2_a,r2_b⟩:=r2_h)|skip);replace h1:=h1.mod m12;obtain⟨x2,a2,n2,c2,rfl⟩:=h2.lit))
  all_goals go_wp2_with fail
  all_goals go_meet
  all_goals refine bz_fin ?_ ?_ ?_ ?_ ?_ ?_
  all_goals first|(show BzS w aa ab N1 ca N2 cb _;(repeat (first|with_reducible exact hS2|with_reducible exact hS1|with_reducible exact hS0.out|with_reducible exact hS00.out|(with_reducible refine BzS.put ?_ ?_;rotate_left;(focus ((first|omega|(simp only[World.size_alloc,World.size_drew];done)|(simp only[World.size_alloc,World.size_drew];omega)))))|with_reducible refine BzS.up ?_ ((Mod.refl [] _).alloc _)|with_reducible refine BzS.up ?_ ((Mod.refl [] _).drew)));done)|((repeat (first|(with_reducible refine IntBox.putSame ?_ ?_;rotate_left;(focus ((repeat (first|with_reducible exact IntBlk.of p1|with_reducible exact IntBlk.of p2|with_reducible exact IntBlk.of r1_|with_reducible exact IntBlk.of r2_|(with_reducible refine intBlk_new2 ?_;(focus (first|omega|(simp only[World.size_alloc,World.size_drew];done)|(simp only[World.size_alloc,World.size_drew];omega))))|with_reducible refine IntBlk.put ?_|with_reducible refine IntBlk.mod ?_ ((Mod.refl [] _).alloc _)));done));(focus ((repeat (first|with_reducible exact h1|with_reducible exact h2|(with_reducible refine IntIs.put ?_ ?_;rotate_left;(focus ((repeat (first|with_reducible exact IntBlk.of p1|with_reducible exact IntBlk.of p2|with_reducible exact IntBlk.of r1_|with_reducible exact IntBlk.of r2_|(with_reducible refine intBlk_new2 ?_;(focus (first|omega|(simp only[World.size_alloc,World.size_drew];done)|(simp only[World.size_alloc,World.size_drew];omega))))|with_reducible refine IntBlk.put ?_|with_reducible refine IntBlk.mod ?_ ((Mod.refl [] _).alloc _)));done)))|with_reducible refine IntIs.mod ?_ ((Mod.refl [] _).alloc _)));done)))|(with_reducible refine intBox_new2 ?_ ?_;rotate_left;(focus ((repeat (first|with_reducible exact h1|with_reducible exact h2|(with_reducible refine IntIs.put ?_ ?_;rotate_left;(focus ((repeat (first|with_reducible exact IntBlk.of p1|with_reducible exact IntBlk.of p2|with_reducible exact IntBlk.of r1_|with_reducible exact IntBlk.of r2_|(with_reducible refine intBlk_new2 ?_;(focus (first|omega|(simp only[World.size_alloc,World.size_drew];done)|(simp only[World.size_alloc,World.size_drew];omega))))|with_reducible refine IntBlk.put ?_|with_reducible refine IntBlk.mod ?_ ((Mod.refl [] _).alloc _)));done)))|with_reducible refine IntIs.mod ?_ ((Mod.refl [] _).alloc _)));done));(focus (first|omega|(simp only[World.size_alloc,World.size_drew];done)|(simp only[World.size_alloc,World.size_drew];omega))))|(with_reducible refine IntBox.put ?_ ?_ ?_;rotate_left;(focus ((repeat (first|with_reducible exact IntBlk.of p1|with_reducible exact IntBlk.of p2|with_reducible exact IntBlk.of r1_|with_reducible exact IntBlk.of r2_|(with_reducible refine intBlk_new2 ?_;(focus (first|omega|(simp only[World.size_alloc,World.size_drew];done)|(simp only[World.size_alloc,World.size_drew];omega))))|with_reducible refine IntBlk.put ?_|with_reducible refine IntBlk.mod ?_ ((Mod.refl [] _).alloc _)));done));(focus (first|omega|(simp only[World.size_alloc,World.size_drew];done)|(simp only[World.size_alloc,World.size_drew];omega))))|with_reducible refine IntBox.up ?_ ((Mod.refl [] _).alloc _)));done)|(first|omega|(simp only[World.size_alloc,World.size_drew];done)|(simp only[World.size_alloc,World.size_drew];omega))
 case rest=>
  clear k0 k1 k2 k3 q0 q1 q2 q3 r0 r1 r2 r3 m0 C1 C2
  obtain⟨P7,P8,rfl,rfl,m1,g7,g8,ne78,X7,X8,kA,kB,k5,k6,h7,h8⟩:=hcut
  have l7:=X7.lt
  have l8:=X8.lt
  obtain⟨W1,rfl⟩:∃W:World,W=wc:=⟨_,rfl⟩
  go_wp2_with fail
  refine(c_Of64 1 (by decide) _).mono ?_
  rintro e w2 ⟨v1,rfl,m2,i1⟩
  go_wp2_with fail
  refine(c_Of64 0 (by decide) _).mono ?_
  rintro e w3 ⟨v2,rfl,m3,i2⟩
  obtain⟨x1,a1,n1,c1,rfl⟩:=i1.lit
  obtain⟨x2,a2,n2,c2,rfl⟩:=i2.lit
  replace i1:=i1.mod m3
  go_upto_region 3 with fail
  go_cut [9,10,11,12]from 23 to 24 (fun a9 a10 a11 a12 wx=>∃G9 G10 G11 G12,a9=ptr G9∧a10=ptr G10∧a11=ptr G11∧a12=ptr G12∧BzA w P7 P8 G9 G10 G11 G12∧BzW w wx aa ab N1 ca N2 cb P7 P8 G9 G10 G11 G12 a b 1 0 0 1)
  case first=>
   go_wp2_with fail
   refine(c_Of64 0 (by decide) _).mono ?_
   rintro e w4 ⟨v3,rfl,m4,i3⟩
   go_wp2_with fail
   refine(c_Of64 1 (by decide) _).mono ?_
   rintro e w5 ⟨v4,rfl,m5,i4⟩
   obtain⟨x3,a3,n3,c3,rfl⟩:=i3.lit
   obtain⟨x4,a4,n4,c4,rfl⟩:=i4.lit
   replace i3:=i3.mod m5
   have s2:=m2.size
   have s3:=m3.size
   have s4:=m4.size
   have s5:=m5.size
   simp only[World.size_alloc]at s4
   have u1:IntBox w4 w3.heap.size ((1:Nat):Int):=((intBox_new2 rfl i1).up ((Mod.refl [] _).alloc _)).up m4
   have u2:IntBox w4 (w3.heap.size+1) ((0:Nat):Int):=(intBox_new2 (by rw[World.size_alloc]) (i2.mod ((Mod.refl [] _).alloc _))).up m4
   have m35:Mod [] W1 w5:=((((m2.then m3).alloc _).alloc _).then m4).then m5
   go_wp2_with fail
   go_meet
   have mE:Mod [] w5 ((w5.alloc (.cells #[.bool x3,.slice a3 n3 c3] 80)).alloc (.cells #[.bool x4,.slice a4 n4 c4] 80)):=((Mod.refl [] _).alloc _).alloc _
   have mA:=m35.then mE
   refine⟨w3.heap.size,w3.heap.size+1,w5.heap.size,w5.heap.size+1,rfl,rfl,rfl,rfl,⟨ne78,by omega,by omega,by omega,by omega,by omega,by omega,h7,h8⟩,m1.then mA,X7.up mA,X8.up mA,(u1.up m5).up mE,(u2.up m5).up mE,(intBox_new2 rfl i3).up ((Mod.refl [] _).alloc _),intBox_new2 (by rw[World.size_alloc]) (i4.mod ((Mod.refl [] _).alloc _)),blk_up kA mA,blk_up kB mA,k5.mod mA,k6.mod mA⟩
  case rest=>
   clear X7 X8 kA kB k5 k6 m1 i1 i2 m2 m3 h7 h8 g7 g8 ne78 l7 l8
   obtain⟨G9,G10,G11,G12,rfl,rfl,rfl,rfl,hAD,hBZ⟩:=hcut
   obtain⟨W4,rfl⟩:∃W:World,W=wc:=⟨_,rfl⟩
   have AD:=hide hAD
   clear hAD
   go_wp2_with fail
   go_loopg [] b (fun k wr=>∃(x y:Nat) (p q r s:Int),BzW w wr aa ab N1 ca N2 cb P7 P8 G9 G10 G11 G12 x y p q r s∧Hid (k=y∧x≤a+b∧y≤a+b)∧Hid (BezAt a b x y p q r s))
   case atStart=>exact⟨a,b,1,0,0,1,hBZ,hide ⟨rfl,by omega,by omega⟩,hide (BezAt.start a b)⟩
   case round=>
    obtain⟨x,y,p,q,r,s,⟨mR,z7,z8,z9,z10,z11,z12,zA,zB,zC,zD⟩,hk,hS⟩:=hrel
    obtain⟨b7,a7,n7,c7,B7,I7⟩:=z7
    obtain⟨b8,a8,n8,c8,B8,I8⟩:=z8
    obtain⟨b9,a9,n9,c9,B9,I9⟩:=z9
    obtain⟨b10,a10,n10,c10,B10,I10⟩:=z10
    obtain⟨b11,a11,n11,c11,B11,I11⟩:=z11
    obtain⟨b12,a12,n12,c12,B12,I12⟩:=z12
    obtain⟨rfl,Y,rfl,sY,cY,eY⟩:=I8.blen
    obtain⟨nY,hnY⟩:∃n,n=Y.length:=⟨_,rfl⟩
    rw[←hnY]at I8 B8 sY
    have hz:=cY.zero
    rw[eY,←hnY]at hz
    have HZ:=hide hz
    clear eY hnY hz
    obtain⟨f80,f81,f82,f83⟩:=int_cells B8
    by_cases hy:y=0
    ·have hn0:nY=0:=HZ.out.1 hy
     subst hn0
     obtain⟨f70,f71,f72,f73⟩:=int_cells B7
     obtain⟨f90,f91,f92,f93⟩:=int_cells B9
     obtain⟨f100,f101,f102,f103⟩:=int_cells B10
     obtain⟨x7,rfl,sX,cX,eX⟩:∃X:List Nat,X.length=n7∧SliceK i64 wr (.slice a7 n7 c7) X∧Canon X∧valS X=x:=by obtain⟨_,h⟩:=I7.blen;exact h
     obtain⟨nX,hnX⟩:∃n,n=x7.length:=⟨_,rfl⟩
     rw[←hnX]at I7 B7 sX f71
     have EX:=hide eX
     clear eX hnX
     obtain⟨fA0,fA1,fA2,fA3⟩:=int_cells zA
     obtain⟨fB0,fB1,fB2,fB3⟩:=int_cells zB
     obtain⟨xC,aC,nC,cC,BC⟩:=zC
     obtain⟨xD,aD,nD,cD,BD⟩:=zD
     obtain⟨fC0,fC1,fC2,fC3⟩:=int_cells BC
     obtain⟨fD0,fD1,fD2,fD3⟩:=int_cells BD
     have e1:((N1:Int) == 0)=false:=by rw[beq_eq_false_iff_ne];omega
     have e2:((N2:Int) == 0)=false:=by rw[beq_eq_false_iff_ne];omega
     go_wp2_with fail
     have HH:Hid (Held0 w wr [(P7,.bool b7,.slice a7 nX c7),(G9,.bool b9,.slice a9 n9 c9),(G10,.bool b10,.slice a10 n10 c10)]):=hide ⟨f70,f71,f90,f91,f100,f101,mR⟩
     go_region_held3 (fun w'=>w'.cell? ⟨P7,0,none⟩=some (.bool b7)∧w'.cell? ⟨P7,1,none⟩=some (.slice a7 nX c7)∧w'.cell? ⟨G9,0,none⟩=some (.bool b9)∧w'.cell? ⟨G9,1,none⟩=some (.slice a9 n9 c9)∧w'.cell? ⟨G10,0,none⟩=some (.bool b10)∧w'.cell? ⟨G10,1,none⟩=some (.slice a10 n10 c10)∧Mod [] w w')
      ((show Held0 w _ [(P7,.bool b7,.slice a7 nX c7),(G9,.bool b9,.slice a9 n9 c9),(G10,.bool b10,.slice a10 n10 c10)];(repeat (first|with_reducible exact HH.out|with_reducible refine Held0.drew ?_|((with_reducible refine Held0.store ?_ ?_ ?_);(focus (obtain⟨_,_,_,_,_,_,_,_,_⟩:=AD.out;intro x hx;simp only[List.mem_cons,List.not_mem_nil,or_false]at hx;rcases hx with rfl|rfl|rfl<;>(dsimp only;omega)));(focus omega))));done))
      (fail)
     go_wp2_with fail
     have hst:=int_stored2 (x:=b9) (y:=b10) (a:=a9) (b:=a10) (n:=n9) (c:=c9) (k:=n10) (d:=c10) BC BD (show w.heap.size+1+1≠w.heap.size+1+1+1 by omega) mR (show w.heap.size≤w.heap.size+1+1 by omega) (show w.heap.size≤w.heap.size+1+1+1 by omega) ⟨⟨_,_,_,_,BC⟩,⟨_,_,_,_,BD⟩⟩
     refine bodyPost_ret (results_ti2 rfl rfl rfl (int_at_drew hst.2.1) (int_at_drew hst.2.2.1)) rfl ?_
     have e0:x=Nat.gcd a b:=by have:=hS.out.gcd;rw[hy,Nat.gcd_zero_right]at this;exact this
     have hC1:IntBlk wr (w.heap.size+1+1):=⟨_,_,_,_,BC⟩
     have hD1:IntBlk wr (w.heap.size+1+1+1):=⟨_,_,_,_,BD⟩
     refine⟨_,_,_,x7,p,q,rfl,hst.1.drew,((sX.put hC1).put hD1.put).mod (Mod.refl [] _).drew (by simp),cX,by rw[EX.out,e0],(hst.2.2.2 _ _ I9).mod (Mod.refl [] _).drew,(hst.2.2.2 _ _ I10).mod (Mod.refl [] _).drew,by rw[hS.out.ex,e0],hS.out.lp.1⟩
    ·have hy0:0<y:=Nat.pos_of_ne_zero hy
     have hn0:(0:Int)<(nY:Int):=by have:=mt HZ.out.2 hy;omega
     clear HZ
     obtain⟨f70,f71,f72,f73⟩:=int_cells B7
     have z7:IntBox wr P7 x:=⟨_,_,_,_,B7,I7⟩
     have z9:IntBox wr G9 p:=⟨_,_,_,_,B9,I9⟩
     have z10:IntBox wr G10 q:=⟨_,_,_,_,B10,I10⟩
     have z11:IntBox wr G11 r:=⟨_,_,_,_,B11,I11⟩
     have z12:IntBox wr G12 s:=⟨_,_,_,_,B12,I12⟩
     have z8:IntBox wr P8 y:=⟨_,_,_,_,B8,I8⟩
     have ltx:Hid (x<lim):=hide (by have:=hk.out;have:=HLA.out;omega)
     have HQ:=hide (c_QuoRem _ _ (x:Int) (y:Int) wr I7 I8 (by simpa using ltx.out) (by omega))
     have l12:=z12.lt
     have l8:=z8.lt
     have l7:=z7.lt
     go_wp2_with fail
     refine HQ.out.mono ?_
     rintro e w5 ⟨v13,v14,rfl,m5,i13,i14⟩
     rw[iq_nat]at i13
     rw[ir_nat]at i14
     obtain⟨b13,a13,n13,c13,rfl⟩:=i13.lit
     obtain⟨b14,a14,n14,c14,rfl⟩:=i14.lit
     obtain⟨K,hK⟩:∃K,K=x/y:=⟨_,rfl⟩
     obtain⟨R,hR⟩:∃R,R=x%y:=⟨_,rfl⟩
     rw[←hK]at i13
     rw[←hR]at i14
     have HK:=hide hK
     have HR:=hide hR
     clear hK hR HQ f70 f71 f72 f73 f80 f81 f82 f83
     obtain⟨W5,hW5⟩:∃W,W=((w5.alloc (.cells #[.bool b13,.slice a13 n13 c13] 80)).alloc (.cells #[.bool b14,.slice a14 n14 c14] 80)):=⟨_,rfl⟩
     have me:Mod [] w5 W5:=by rw[hW5];exact((Mod.refl [] _).alloc _).alloc _
     have mW:=m5.then me
     have z13:IntBox W5 w5.heap.size K:=by rw[hW5];exact(intBox_new2 rfl i13).up ((Mod.refl [] _).alloc _)
     have B14:Blk W5 (w5.heap.size+1) 80 [.bool b14,.slice a14 n14 c14]:=by rw[hW5];have:=Blk.new (w5.alloc (.cells #[.bool b13,.slice a13 n13 c13] 80)) 80 [.bool b14,.slice a14 n14 c14];rw[World.size_alloc]at this;exact this
     replace i14:=i14.mod me
     have s5:=m5.size
     have HW:=hide hW5
     clear hW5
     replace z7:=z7.up mW
     replace z8:=z8.up mW
     replace z9:=z9.up mW
     replace z10:=z10.up mW
     replace z11:=z11.up mW
     replace z12:=z12.up mW
     replace B7:=blk_up B7 mW
     replace B8:=blk_up B8 mW
     replace I8:=I8.mod mW
     replace mR:=mR.then mW
     replace zA:=blk_up zA mW
     replace zB:=blk_up zB mW
     replace zC:=zC.mod mW
     replace zD:=zD.mod mW
     clear mW me m5 i13 I7 B9 B10 B11 B12 I9 I10 I11 I12
     go_upto_region 6 with fail
     try rw[←HW.out]
     go_cut [13]from 29 to 36 (fun s13 wx=>∃G13,s13=ptr G13∧G12<G13∧w.heap.size≤G13∧IntBox wx G13 K∧BzW w wx aa ab N1 ca N2 cb P7 P8 G9 G10 G11 G12 y R p q r s)
     case first=>
      obtain⟨f70,f71,f72,f73⟩:=int_cells B7
      obtain⟨f80,f81,f82,f83⟩:=int_cells B8
      obtain⟨f140,f141,f142,f143⟩:=int_cells B14
      have hBD:BzA w P7 P8 G9 G10 G11 G12:=AD.out
      obtain⟨d1,d2,d3,d4,d5,d6,d7,d8,d9⟩:=hBD
      have HH6:Hid (Held0 w W5 [(w5.heap.size+1,.bool b14,.slice a14 n14 c14)]):=hide ⟨f140,f141,mR⟩
      have kk1:IntBlk W5 P7:=z7.blk
      have kk2:IntBlk (putInt W5 P7 false a8 nY c8) P8:=IntBlk.put z8.blk
      have y7:=((IntBox.putSame I8 kk1).put (b:=b14) (a:=a14) (n:=n14) (c:=c14) kk2 (by omega)).up ((Mod.refl [] _).drew)
      have y8:=(IntBox.putSame (i14.put (b:=false) (a:=a8) (n:=nY) (c:=c8) kk1) kk2).up ((Mod.refl [] _).drew)
      have y9:=((z9.put (b:=false) (a:=a8) (n:=nY) (c:=c8) kk1 (by omega)).put (b:=b14) (a:=a14) (n:=n14) (c:=c14) kk2 (by omega)).up ((Mod.refl [] _).drew)
      have y10:=((z10.put (b:=false) (a:=a8) (n:=nY) (c:=c8) kk1 (by omega)).put (b:=b14) (a:=a14) (n:=n14) (c:=c14) kk2 (by omega)).up ((Mod.refl [] _).drew)
      have y11:=((z11.put (b:=false) (a:=a8) (n:=nY) (c:=c8) kk1 (by omega)).put (b:=b14) (a:=a14) (n:=n14) (c:=c14) kk2 (by omega)).up ((Mod.refl [] _).drew)
      have y12:=((z12.put (b:=false) (a:=a8) (n:=nY) (c:=c8) kk1 (by omega)).put (b:=b14) (a:=a14) (n:=n14) (c:=c14) kk2 (by omega)).up ((Mod.refl [] _).drew)
      have zAy:=blk_up (Blk.put (p:=P8) (b:=b14) (a:=a14) (n:=n14) (c:=c14) (Blk.put (p:=P7) (b:=false) (a:=a8) (n:=nY) (c:=c8) zA (by omega)) (by omega)) ((Mod.refl [] _).drew)
      have zBy:=blk_up (Blk.put (p:=P8) (b:=b14) (a:=a14) (n:=n14) (c:=c14) (Blk.put (p:=P7) (b:=false) (a:=a8) (n:=nY) (c:=c8) zB (by omega)) (by omega)) ((Mod.refl [] _).drew)
      have zCy:=IntBlk.mod (IntBlk.put (p:=P8) (b:=b14) (a:=a14) (n:=n14) (c:=c14) (IntBlk.put (p:=P7) (b:=false) (a:=a8) (n:=nY) (c:=c8) zC)) ((Mod.refl [] _).drew)
      have zDy:=IntBlk.mod (IntBlk.put (p:=P8) (b:=b14) (a:=a14) (n:=n14) (c:=c14) (IntBlk.put (p:=P7) (b:=false) (a:=a8) (n:=nY) (c:=c8) zD)) ((Mod.refl [] _).drew)
      have mRy:Mod [] w (putInt (putInt W5 P7 false a8 nY c8) P8 b14 a14 n14 c14).drew:=(putInt_mod (putInt_mod mR (by omega)) (by omega)).drew
      have y13:=((z13.put (b:=false) (a:=a8) (n:=nY) (c:=c8) kk1 (by omega)).put (b:=b14) (a:=a14) (n:=n14) (c:=c14) kk2 (by omega)).up ((Mod.refl [] _).drew)
      have HR6:Hid (∃G13,Value.pointer (some ⟨w5.heap.size,0,none⟩)=ptr G13∧G12<G13∧w.heap.size≤G13∧IntBox (putInt (putInt W5 P7 false a8 nY c8) P8 b14 a14 n14 c14).drew G13 K∧BzW w (putInt (putInt W5 P7 false a8 nY c8) P8 b14 a14 n14 c14).drew aa ab N1 ca N2 cb P7 P8 G9 G10 G11 G12 y R p q r s):=hide ⟨_,rfl,by omega,by omega,y13,mRy,y7,y8,y9,y10,y11,y12,zAy,zBy,zCy,zDy⟩
      clear kk1 kk2 y7 y8 y9 y10 y11 y12 y13 zAy zBy zCy zDy mRy
      go_region_with (fail)
      all_goals go_wp2_with fail
      all_goals go_meet
      all_goals exact HR6.out
     case rest=>
      clear z7 z8 z9 z10 z11 z12 z13 zA zB zC zD mR B7 B8 B14 I8 i14 l7 l8 l12 s5
      obtain⟨G13,rfl,g13,gw13,z13,mR,z7,z8,z9,z10,z11,z12,zA,zB,zC,zD⟩:=hcut
      obtain⟨W6,rfl⟩:∃W:World,W=wc:=⟨_,rfl⟩
      go_upto_region 7 with fail
      go_cut []from 37 to 42 (fun wx=>IntBox wx G13 K∧BzW w wx aa ab N1 ca N2 cb P7 P8 G9 G10 G11 G12 y R r q (p-K*r) s)
      case first=>
       obtain⟨b13,a13,n13,c13,B13,I13⟩:=id z13
       obtain⟨f130,f131,f132,f133⟩:=int_cells B13
       obtain⟨b9,a9,n9,c9,B9,I9⟩:=id z9
       obtain⟨f90,f91,f92,f93⟩:=int_cells B9
       obtain⟨b11,a11,n11,c11,B11,I11⟩:=id z11
       obtain⟨f110,f111,f112,f113⟩:=int_cells B11
       have hBD:BzA w P7 P8 G9 G10 G11 G12:=AD.out
       obtain⟨d1,d2,d3,d4,d5,d6,d7,d8,d9⟩:=hBD
       have ne1:G9≠G11:=by omega
       have ne2:G11≠G9:=by omega
       have lK:Hid ((K:Int).natAbs<lim):=hide (by have:=hk.out;have:=HLA.out;have:=HK.out;have:=Nat.div_le_self x y;omega)
       have lr:Hid (Int.natAbs r<lim):=hide (by have:=HLA.out;have:=hS.out.lp;omega)
       have lp:Hid (Int.natAbs p<lim):=hide (by have:=HLA.out;have:=hS.out.lp;omega)
       have lKr:Hid (Int.natAbs ((K:Int)*r)<lim):=hide (by have:=HLA.out;have:=hS.out.small;rw[←HK.out]at this;rw[Int.natAbs_mul,Int.natAbs_natCast];omega)
       have CT:=hide (fun w' (m:Mod [] W6 w')=>c_Times _ _ (K:Int) r w' (I13.mod m) (I11.mod m) lK.out lr.out)
       have CM:=hide (fun w' v (m:Mod [] W6 w') (h:IntIs w' v ((K:Int)*r))=>c_Minus _ v p ((K:Int)*r) w' (I9.mod m) h lp.out lKr.out)
       clear lK lr lp lKr
       have ne3:Hid (G13≠G9∧G13≠G11):=hide ⟨by omega,by omega⟩
       have HZ13:=hide z13
       have HBZ:Hid (BzW w W6 aa ab N1 ca N2 cb P7 P8 G9 G10 G11 G12 y R p q r s):=hide ⟨mR,z7,z8,z9,z10,z11,z12,zA,zB,zC,zD⟩
       clear z7 z8 z9 z10 z11 z12 z13 zA zB zC zD mR d1 d2 d3 d4 d5 d6 d7 d8 d9 I9
       go_region_with  (first|(go_at_call 99;refine(CT.out _ ((Mod.refl [] _).drew)).mono ?_;rintro e w7 ⟨v41,rfl,m7,i41⟩;obtain⟨b41,a41,n41,c41,rfl⟩:=i41.lit;have M7:Mod [] W6 w7:=m7.ofDrew;clear m7;obtain⟨g0,g1,g2,g3⟩:=int_cells (blk_up B9 M7);obtain⟨j0,j1,j2,j3⟩:=int_cells (blk_up B11 M7))|(go_at_call 98;refine(CM.out _ _ M7 i41).mono ?_;rintro e w8 ⟨v42,rfl,m8,i42⟩;obtain⟨b42,a42,n42,c42,rfl⟩:=i42.lit;have M8:=M7.then m8;obtain⟨o0,o1,o2,o3⟩:=int_cells (blk_up B9 M8);obtain⟨t0,t1,t2,t3⟩:=int_cells (blk_up B11 M8);have HRR:=hide (And.intro (IntBox.put2 (b:=b11) (a:=a11) (n:=n11) (c:=c11) (b':=b42) (a':=a42) (n':=n42) (c':=c42) (HZ13.out.up M8) (IntBlk.of (blk_up B9 M8)) (IntBlk.of (blk_up B11 M8)) ne3.out.1 ne3.out.2) ((HBZ.out.up M8).step7 AD.out (I11.mod M8) i42));clear i41 i42 m8))
       all_goals go_wp2_with fail
       all_goals go_meet
       all_goals exact HRR.out
      case rest=>
       clear z7 z8 z9 z10 z11 z12 z13 zA zB zC zD mR
       obtain⟨z13,mR,z7,z8,z9,z10,z11,z12,zA,zB,zC,zD⟩:=hcut
       obtain⟨W7,rfl⟩:∃W:World,W=wc:=⟨_,rfl⟩
       go_upto_region 8 with fail
       obtain⟨b13,a13,n13,c13,B13,I13⟩:=id z13
       obtain⟨f130,f131,f132,f133⟩:=int_cells B13
       obtain⟨b10,a10,n10,c10,B10,I10⟩:=id z10
       obtain⟨f100,f101,f102,f103⟩:=int_cells B10
       obtain⟨b12,a12,n12,c12,B12,I12⟩:=id z12
       obtain⟨f120,f121,f122,f123⟩:=int_cells B12
       have hBD:BzA w P7 P8 G9 G10 G11 G12:=AD.out
       obtain⟨d1,d2,d3,d4,d5,d6,d7,d8,d9⟩:=hBD
       have ne1:G10≠G12:=by omega
       have ne2:G12≠G10:=by omega
       have lK:Hid ((K:Int).natAbs<lim):=hide (by have:=hk.out;have:=HLA.out;have:=HK.out;have:=Nat.div_le_self x y;omega)
       have lr:Hid (Int.natAbs s<lim):=hide (by have:=HLA.out;have:=hS.out.lq;omega)
       have lp:Hid (Int.natAbs q<lim):=hide (by have:=HLA.out;have:=hS.out.lq;omega)
       have lKr:Hid (Int.natAbs ((K:Int)*s)<lim):=hide (by have:=HLA.out;have:=hS.out.small;rw[←HK.out]at this;rw[Int.natAbs_mul,Int.natAbs_natCast];omega)
       have CT:=hide (fun w' (m:Mod [] W7 w')=>c_Times _ _ (K:Int) s w' (I13.mod m) (I12.mod m) lK.out lr.out)
       have CM:=hide (fun w' v (m:Mod [] W7 w') (h:IntIs w' v ((K:Int)*s))=>c_Minus _ v q ((K:Int)*s) w' (I10.mod m) h lp.out lKr.out)
       clear lK lr lp lKr
       have HBZ:Hid (BzW w W7 aa ab N1 ca N2 cb P7 P8 G9 G10 G11 G12 y R r q (p-K*r) s):=hide ⟨mR,z7,z8,z9,z10,z11,z12,zA,zB,zC,zD⟩
       clear z7 z8 z9 z10 z11 z12 z13 zA zB zC zD mR d1 d2 d3 d4 d5 d6 d7 d8 d9 I10
       go_region_with  (first|(go_at_call 99;refine(CT.out _ ((Mod.refl [] _).drew)).mono ?_;rintro e w7 ⟨v41,rfl,m7,i41⟩;obtain⟨b41,a41,n41,c41,rfl⟩:=i41.lit;have M7:Mod [] W7 w7:=m7.ofDrew;clear m7;obtain⟨g0,g1,g2,g3⟩:=int_cells (blk_up B10 M7);obtain⟨j0,j1,j2,j3⟩:=int_cells (blk_up B12 M7))|(go_at_call 98;refine(CM.out _ _ M7 i41).mono ?_;rintro e w8 ⟨v42,rfl,m8,i42⟩;obtain⟨b42,a42,n42,c42,rfl⟩:=i42.lit;have M8:=M7.then m8;obtain⟨o0,o1,o2,o3⟩:=int_cells (blk_up B10 M8);obtain⟨t0,t1,t2,t3⟩:=int_cells (blk_up B12 M8);have HRR:=hide ((HBZ.out.up M8).step8 AD.out (I12.mod M8) i42);clear i41 i42 m8))
       all_goals go_wp2_with fail
       all_goals
        go_roundg R
        case measure=>have h1:=hk.out.1;have h2:=Nat.mod_lt x hy0;rw[←HR.out]at h2;omega
        case rel=>exact⟨y,R,r,s,p-K*r,q-K*s,HRR.out,hide ⟨rfl,hk.out.2.2,by have h1:=hk.out;have h2:=Nat.mod_lt x hy0;rw[←HR.out]at h2;omega⟩,hide (by have h:=hS.out.next hy0;rw[←HK.out,←HR.out]at h;exact h)⟩
end Go.Proofs.YtfgmnbmnpihjdaaGreatDoor
