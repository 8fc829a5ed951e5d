/- Lemmas of mine for the walk and its plain laws: SpecW SpecX -/
import Derived.Test.YtfgmnbmnpihjdaaGreatDoorM22
import Derived.Deep.RegionHeld3
set_option linter.all false
set_option exponentiation.threshold 7000000
set_option maxHeartbeats 1000000
namespace Go.Proofs.YtfgmnbmnpihjdaaGreatDoor
open Go.RowKit
def lim:Nat:=65536^20000
theorem lim_eq:lim=65536^20000:=by rw[lim]
theorem Canon.lim{L:List Nat}(h:Canon L)(hl:valS L<lim):L.length≤20000:=h.length_lt (by rw[←lim_eq];exact hl)
attribute [irreducible] lim
theorem IntIs.split{w:World}{v:Value}{z:Int}(h:IntIs w v z):∃b s L,v=.agg #[.bool b,s]∧SliceK i64 w s L∧Canon L∧z=(if b then -(valS L:Int)else valS L)∧valS L=z.natAbs∧b=decide (z<0):=by
 obtain⟨s,L,h1,h2,h3,h4⟩:=h
 refine⟨_,s,L,h1,h2,h3,?_,h4,rfl⟩
 by_cases h0:z<0
 ·rw[decide_eq_true h0,if_pos rfl];omega
 ·rw[decide_eq_false h0,if_neg (by simp)];omega
theorem int_cells{w:World}{p:Nat}{u v:Value}(h:Blk w p 80 [u,v]):w.cell? ⟨p,0,none⟩=some u∧w.cell? ⟨p,1,none⟩=some v∧w.frozen? ⟨p,0,none⟩=false∧w.frozen? ⟨p,1,none⟩=false:=
 ⟨by rw[h.cell];rfl,by rw[h.cell];rfl,h.frozen 0,h.frozen 1⟩
theorem int_stored{w w':World}{p:Nat}{u v c0 c1:Value}(hC:Blk w' p 80 [u,v])(m:Mod [] w w')(hp:w.heap.size≤p) :
 Mod [] w ((w'.setCell ⟨p,0,none⟩ c0).setCell ⟨p,1,none⟩ c1)∧Mod [p] w' ((w'.setCell ⟨p,0,none⟩ c0).setCell ⟨p,1,none⟩ c1)∧IntAt ((w'.setCell ⟨p,0,none⟩ c0).setCell ⟨p,1,none⟩ c1) p (.agg #[c0,c1]):=
 ⟨(m.setCell _ _ (fun h=>by simp at h;omega)).setCell _ _ (fun h=>by simp at h;omega),((Mod.refl [p] _).setCell _ _ (by simp)).setCell _ _ (by simp),blk2 ((hC.setCell 0 c0).setCell 1 c1)⟩
theorem SliceK.setInt{w w':World}{s:Value}{L:List Nat}{p T:Nat}{x:Bool}{y:Value}(h:SliceK i64 w s L)(hC:Blk w p T [.bool x,y])(hy:∀k:Nat,y≠i64 k)(m:Mod [p] w w'):SliceK i64 w' s L:=by
 rcases h with⟨rfl,rfl⟩|⟨b,o,c,rfl,hc,hb⟩
 ·exact .inl ⟨rfl,rfl⟩
 ·refine .inr ⟨b,o,c,rfl,hc,fun i hi=>?_⟩
  have h1:=hb i hi
  have hne:b≠p:=by
   rintro rfl
   have h2:=h1
   rw[hC.cell]at h2
   rcases Nat.lt_or_ge (o+i) 2 with h3|h3
   ·rcases (by omega:o+i=0∨o+i=1)with h4|h4
    ·rw[h4]at h2;simp at h2
    ·rw[h4]at h2;simp at h2;exact hy _ h2
   ·rw[List.getElem?_eq_none (by simpa using h3)]at h2;cases h2
  rw[←h1];exact World.cell?_of_block (m.block b (block_lt_of_cell h1) (by simpa using hne))
theorem IntIs.set{w w':World}{p T:Nat}{v:Value}{z:Int}{x:Bool}{a:Option Addr}{n c:Nat}(h:IntIs w v z)(hC:Blk w p T [.bool x,.slice a n c])(m:Mod [p] w w'):IntIs w' v z:=by
 obtain⟨s,L,h1,h2,h3,h4⟩:=h
 exact⟨s,L,h1,h2.setInt hC (by intro k;simp) m,h3,h4⟩
theorem IntIs.lit{w:World}{v:Value}{z:Int}(h:IntIs w v z):∃b a n c,v=.agg #[.bool b,.slice a n c]:=by
 obtain⟨s,L,h1,h2,h3,h4⟩:=h
 obtain⟨a,c,rfl⟩:=h2.lit
 exact⟨_,_,_,_,h1⟩
abbrev IntBlk(w:World)(p:Nat):Prop:=∃x a n c,Blk w p 80 [.bool x,.slice a n c]
set_option maxRecDepth 100000 in
theorem c_Of64(n:Nat)(hn:n<9223372036854775808)(w:World) :
 Calls Tryz.prog 96 #[i64 n] w fun e w'=>∃v,e=.returned v∧Mod [] w w'∧IntIs w' v n:=by
 have h0:¬(n:Int)<0:=by omega
 have hw:IntKind.u64.wrap (n:Int)=(n:Int):=by rw[IntKind.wrap_u64];omega
 have hsl:SliceK u64 ((w.alloc (.cells #[.bool false,.slice none 0 0] 80)).alloc (.cells #[.int .u64 (n:Int)] 51)) (sl (w.heap.size+1) 0 1 1) [n]:=by
  refine .inr ⟨w.heap.size+1,0,1,rfl,by simp,fun i hi=>?_⟩
  obtain rfl:i=0:=by simpa using hi
  have:=blk_cell0 (Blk.new (w.alloc (.cells #[.bool false,.slice none 0 0] 80)) 51 [u64 n])
  rw[World.size_alloc]at this
  exact this
 have hC:Blk ((w.alloc (.cells #[.bool false,.slice none 0 0] 80)).alloc (.cells #[.int .u64 (n:Int)] 51)) w.heap.size 80 [.bool false,.slice none 0 0]:=(Blk.new w _ [.bool false,.slice none 0 0]).alloc _
 have hwd:Words [n]:=by intro i hi;obtain rfl:i=0:=by simpa using hi
                        show n<W
                        rw[W_eq];omega
 have m0:Mod [] w ((w.alloc (.cells #[.bool false,.slice none 0 0] 80)).alloc (.cells #[.int .u64 (n:Int)] 51)):=((Mod.refl [] w).alloc _).alloc _
 have C1:=hide (c_Of _ [n] _ hsl hwd (by simp))
 clear hn hsl hwd
 go_enter Tryz.func96,Tryz.ntmps96
 go_wp2_with fail
 refine C1.out.mono ?_
 rintro e w1 ⟨v1,L1,rfl,m1,h1,k1,e1,-⟩
 have E1:=hide e1
 clear e1
 go_wp2_with fail
 refine(c_Make false v1 L1 w1 h1 k1).mono ?_
 rintro e w2 ⟨v2,rfl,m2,h2⟩
 rw[if_neg (by simp),E1.out]at h2
 have hC2:=hC.mod (m1.then m2) (by simp)
 obtain⟨b,a,k,c,rfl⟩:=h2.lit
 obtain⟨f0,f1,f2,f3⟩:=int_cells hC2
 have m02:=m0.then (m1.then m2)
 have hst:=fun c0 c1=>int_stored (c0:=c0) (c1:=c1) hC2 m02 (Nat.le_refl _)
 go_wp2_with fail
 refine bodyPost_ret (results_int rfl rfl (hst _ _).2.2) rfl ?_
 exact⟨_,rfl,(hst _ _).1,by have:=h2.set hC2 (hst (.bool b) (.slice a k c)).2.1;simpa [val]using this⟩
def CellsAt(w':World):List (Nat×Value×Value)→Prop→Prop
 | [],P=>P
 |(p,u,v)::l,P=>w'.cell? ⟨p,0,none⟩=some u∧w'.cell? ⟨p,1,none⟩=some v∧CellsAt w' l P
theorem cell_mod{w w':World}(m:Mod [] w w'){b o:Nat}{v:Value}(h:w.cell? ⟨b,o,none⟩=some v):w'.cell? ⟨b,o,none⟩=some v:=by
 rw[←h];exact World.cell?_of_block (m.block b (block_lt_of_cell h) (by simp))
theorem IntBlk.mod{w w':World}{p:Nat}(h:IntBlk w p)(m:Mod [] w w'):IntBlk w' p:=by
 obtain⟨x,a,n,c,h⟩:=h
 exact⟨x,a,n,c,h.mod m (by simp)⟩
theorem CellsAt.keep{w1 w2:World}{P1 P2:Prop}(m:Mod [] w1 w2)(hP:P1→P2):∀{l:List (Nat×Value×Value)},CellsAt w1 l P1→CellsAt w2 l P2
 | [],h=>hP h
 |(_,_,_)::_,h=>⟨cell_mod m h.1,cell_mod m h.2.1,CellsAt.keep m hP h.2.2⟩
theorem CellsAt.last{w1:World}{P:Prop}:∀{l:List (Nat×Value×Value)},CellsAt w1 l P→P
 | [],h=>h
 |(_,_,_)::_,h=>CellsAt.last h.2.2
theorem CellsAt.store{w1:World}{P1 P2:Prop}{r:Nat}{c0 c1:Value}(hP:P1→P2):∀{l:List (Nat×Value×Value)},(∀x∈l,x.1≠r)→CellsAt w1 l P1→CellsAt ((w1.setCell ⟨r,0,none⟩ c0).setCell ⟨r,1,none⟩ c1) l P2
 | [],_,h=>hP h
 |(p,u,v)::l,hr,h=>by
  have hp:p≠r:=hr (p,u,v) (by simp)
  have e:((w1.setCell ⟨r,0,none⟩ c0).setCell ⟨r,1,none⟩ c1).heap[p]? = w1.heap[p]?:=(Below.heap_setCell _ _ _ _ hp).trans (Below.heap_setCell _ _ _ _ hp)
  exact⟨(World.cell?_of_block e).trans h.1,(World.cell?_of_block e).trans h.2.1,CellsAt.store hP (fun x hx=>hr x (by simp[hx])) h.2.2⟩
theorem IntBlk.store{w:World}{p r:Nat}{x:Bool}{a:Option Addr}{n c:Nat}(h:IntBlk w p):IntBlk ((w.setCell ⟨r,0,none⟩ (.bool x)).setCell ⟨r,1,none⟩ (.slice a n c)) p:=by
 obtain⟨y,b,k,d,h⟩:=h
 by_cases hp:p=r
 ·subst hp;exact⟨x,a,n,c,(h.setCell 0 _).setCell 1 _⟩
 ·exact⟨y,b,k,d,(h.setCell_other _ _ hp).setCell_other _ _ hp⟩
def Held1(w w':World)(r:Nat)(l:List (Nat×Value×Value)):Prop:=CellsAt w' l (Mod [] w w'∧IntBlk w' r)
def Held2(w w':World)(r t:Nat)(l:List (Nat×Value×Value)):Prop:=CellsAt w' l (Mod [] w w'∧IntBlk w' r∧IntBlk w' t)
theorem Held1.keep{w w1 w2:World}{r:Nat}{l:List (Nat×Value×Value)}(h:Held1 w w1 r l)(m:Mod [] w1 w2):Held1 w w2 r l:=CellsAt.keep m (fun h=>⟨h.1.then m,h.2.mod m⟩) h
theorem Held2.keep{w w1 w2:World}{r t:Nat}{l:List (Nat×Value×Value)}(h:Held2 w w1 r t l)(m:Mod [] w1 w2):Held2 w w2 r t l:=CellsAt.keep m (fun h=>⟨h.1.then m,h.2.1.mod m,h.2.2.mod m⟩) h
theorem Held1.mod{w w1:World}{r:Nat}{l:List (Nat×Value×Value)}(h:Held1 w w1 r l):Mod [] w w1:=(CellsAt.last h).1
theorem Held2.mod{w w1:World}{r t:Nat}{l:List (Nat×Value×Value)}(h:Held2 w w1 r t l):Mod [] w w1:=(CellsAt.last h).1
theorem Held1.blk{w w1:World}{r:Nat}{l:List (Nat×Value×Value)}(h:Held1 w w1 r l):IntBlk w1 r:=(CellsAt.last h).2
theorem Held2.blk{w w1:World}{r t:Nat}{l:List (Nat×Value×Value)}(h:Held2 w w1 r t l):IntBlk w1 r∧IntBlk w1 t:=(CellsAt.last h).2
theorem mod_store{w w1:World}{r:Nat}{c0 c1:Value}(h:Mod [] w w1)(hr:w.heap.size≤r):Mod [] w ((w1.setCell ⟨r,0,none⟩ c0).setCell ⟨r,1,none⟩ c1):=(h.setCell _ _ (fun h=>by simp at h;omega)).setCell _ _ (fun h=>by simp at h;omega)
theorem Held1.store{w w1:World}{r q:Nat}{l:List (Nat×Value×Value)}{x:Bool}{a:Option Addr}{n c:Nat}(hr:∀x∈l,x.1≠q)(hw:w.heap.size≤q)(h:Held1 w w1 r l):Held1 w ((w1.setCell ⟨q,0,none⟩ (.bool x)).setCell ⟨q,1,none⟩ (.slice a n c)) r l:=
 CellsAt.store (fun h=>⟨mod_store h.1 hw,h.2.store⟩) hr h
theorem Held2.store{w w1:World}{r t q:Nat}{l:List (Nat×Value×Value)}{x:Bool}{a:Option Addr}{n c:Nat}(hr:∀x∈l,x.1≠q)(hw:w.heap.size≤q)(h:Held2 w w1 r t l):Held2 w ((w1.setCell ⟨q,0,none⟩ (.bool x)).setCell ⟨q,1,none⟩ (.slice a n c)) r t l:=
 CellsAt.store (fun h=>⟨mod_store h.1 hw,h.2.1.store,h.2.2.store⟩) hr h
theorem Held1.drew{w w1:World}{r:Nat}{l:List (Nat×Value×Value)}(h:Held1 w w1 r l):Held1 w w1.drew r l:=h.keep ((Mod.refl [] w1).drew)
theorem Held2.drew{w w1:World}{r t:Nat}{l:List (Nat×Value×Value)}(h:Held2 w w1 r t l):Held2 w w1.drew r t l:=h.keep ((Mod.refl [] w1).drew)
theorem held1_start(w:World)(x y:Bool)(a b:Option Addr)(k c n d:Nat):Held1 w (((w.alloc (.cells #[.bool x,.slice a k c] 80)).alloc (.cells #[.bool y,.slice b n d] 80)).alloc (.cells #[.bool false,.slice none 0 0] 80)) (w.heap.size+1+1)
 [(w.heap.size,.bool x,.slice a k c),(w.heap.size+1,.bool y,.slice b n d)]:=by
 have h1:=int_cells (((Blk.new w 80 [.bool x,.slice a k c]).alloc (.cells #[.bool y,.slice b n d] 80)).alloc (.cells #[.bool false,.slice none 0 0] 80))
 have h2:=int_cells ((Blk.new (w.alloc (.cells #[.bool x,.slice a k c] 80)) 80 [.bool y,.slice b n d]).alloc (.cells #[.bool false,.slice none 0 0] 80))
 have h3:=(Blk.new ((w.alloc (.cells #[.bool x,.slice a k c] 80)).alloc (.cells #[.bool y,.slice b n d] 80)) 80 [.bool false,.slice none 0 0])
 simp only[World.size_alloc]at h2 h3
 exact⟨h1.1,h1.2.1,h2.1,h2.2.1,((((Mod.refl [] w).alloc _).alloc _).alloc _),⟨_,_,_,_,h3⟩⟩
theorem held2_start(w:World)(x y:Bool)(a b:Option Addr)(k c n d:Nat):Held2 w ((((w.alloc (.cells #[.bool x,.slice a k c] 80)).alloc (.cells #[.bool y,.slice b n d] 80)).alloc (.cells #[.bool false,.slice none 0 0] 80)).alloc (.cells #[.bool false,.slice none 0 0] 80)) (w.heap.size+1+1) (w.heap.size+1+1+1)
 [(w.heap.size,.bool x,.slice a k c),(w.heap.size+1,.bool y,.slice b n d)]:=by
 have h1:=int_cells ((((Blk.new w 80 [.bool x,.slice a k c]).alloc (.cells #[.bool y,.slice b n d] 80)).alloc (.cells #[.bool false,.slice none 0 0] 80)).alloc (.cells #[.bool false,.slice none 0 0] 80))
 have h2:=int_cells (((Blk.new (w.alloc (.cells #[.bool x,.slice a k c] 80)) 80 [.bool y,.slice b n d]).alloc (.cells #[.bool false,.slice none 0 0] 80)).alloc (.cells #[.bool false,.slice none 0 0] 80))
 have h3:=(Blk.new ((w.alloc (.cells #[.bool x,.slice a k c] 80)).alloc (.cells #[.bool y,.slice b n d] 80)) 80 [.bool false,.slice none 0 0]).alloc (.cells #[.bool false,.slice none 0 0] 80)
 have h4:=Blk.new (((w.alloc (.cells #[.bool x,.slice a k c] 80)).alloc (.cells #[.bool y,.slice b n d] 80)).alloc (.cells #[.bool false,.slice none 0 0] 80)) 80 [.bool false,.slice none 0 0]
 simp only[World.size_alloc]at h2 h3 h4
 exact⟨h1.1,h1.2.1,h2.1,h2.2.1,((((Mod.refl [] w).alloc _).alloc _).alloc _).alloc _,⟨_,_,_,_,h3⟩,⟨_,_,_,_,h4⟩⟩
set_option maxRecDepth 100000 in
theorem c_Times(va vb:Value)(x y:Int)(w:World)(ha:IntIs w va x)(hb:IntIs w vb y)(lx:x.natAbs<lim)(ly:y.natAbs<lim) :
 Calls Tryz.prog 99 #[va,vb] w fun e w'=>∃v,e=.returned v∧Mod [] w w'∧IntIs w' v (x*y):=by
 obtain⟨ba,sa,A,rfl,hsa,cA,ex,ax,dx⟩:=ha.split
 obtain⟨bb,sb,B,rfl,hsb,cB,ey,ay,dy⟩:=hb.split
 have lA:=cA.lim (by rw[ax];exact lx)
 have lB:=cB.lim (by rw[ay];exact ly)
 have HZ:Hid (∀n:Nat,n=valS A*valS B→(if (ba != bb)then -(n:Int)else n)=x*y):=by
  refine hide fun n h=>?_
  rw[h,ex,ey]
  cases ba<;>cases bb<;>simp[Int.neg_mul,Int.mul_neg]
 have C1:=hide (fun w' (m:Mod [] w w')=>c_sMul sa sb A B w' (hsa.mod m (by simp)) (hsb.mod m (by simp)) cA.digits cB.digits (by omega) (by omega))
 have C2:=hide (fun w' b v L (h:SliceK i64 w' v L) (c:Canon L)=>c_Make b v L w' h c)
 clear ha hb ex ey ax ay dx dy
 obtain⟨aa,ca,rfl⟩:=hsa.lit
 obtain⟨ab,cb,rfl⟩:=hsb.lit
 go_enter Tryz.func99,Tryz.ntmps99
 go_wp2_with fail
 go_region_held3 (fun w'=>w'.cell? ⟨w.heap.size,0,none⟩=some (.bool ba)∧w'.cell? ⟨w.heap.size,1,none⟩=some (.slice aa A.length ca)∧w'.cell? ⟨w.heap.size+1,0,none⟩=some (.bool bb)∧w'.cell? ⟨w.heap.size+1,1,none⟩=some (.slice ab B.length cb)∧Mod [] w w'∧IntBlk w' (w.heap.size+1+1))
  (first|exact Held1.drew (held1_start w _ _ _ _ _ _ _ _)|exact Held1.keep (l:=[(_,_,_),(_,_,_)]) (by assumption) (by assumption)|exact Held1.store (l:=[(_,_,_),(_,_,_)]) (by intro x hx;simp only[List.mem_cons,List.not_mem_nil,or_false]at hx;rcases hx with rfl|rfl<;>(dsimp only;omega)) (by omega) (by assumption))
  (first|(go_at_call 35;refine(C1.out _ ?_).mono ?_;exact Held1.mod (l:=[(_,_,_),(_,_,_)]) (by assumption);rintro e w1 ⟨v1,L1,rfl,m1,h1,k1,e1,-⟩;have E1:=hide e1;clear e1)|(go_at_call 38;refine(C2.out _ _ _ _ h1 k1).mono ?_;rintro e w2 ⟨v2,rfl,m2,h2⟩;obtain⟨b2,a2,n2,c2,rfl⟩:=h2.lit;obtain⟨x2,y2,z2,u2,hb2⟩:=Held1.blk (w:=w) (w1:=w1) (l:=[(_,_,_),(_,_,_)]) (by assumption);have hm2:=(Held1.mod (w:=w) (w1:=w1) (l:=[(_,_,_),(_,_,_)]) (by assumption)).then m2;have hb3:=hb2.mod m2 (by simp);obtain⟨f0,f1,f2,f3⟩:=int_cells hb3))
 have hst:=fun c0 c1=>int_stored (c0:=c0) (c1:=c1) hb3 hm2 (show w.heap.size≤w.heap.size+1+1 by omega)
 go_wp2_with fail
 refine bodyPost_ret (results_int rfl rfl (hst _ _).2.2) rfl ?_
 exact⟨_,rfl,(hst _ _).1,by have:=h2.set hb3 (hst (.bool b2) (.slice a2 n2 c2)).2.1;rw[←HZ.out _ E1.out];exact this⟩
set_option maxRecDepth 100000 in
theorem c_Plus(va vb:Value)(x y:Int)(w:World)(ha:IntIs w va x)(hb:IntIs w vb y)(lx:x.natAbs<lim)(ly:y.natAbs<lim) :
 Calls Tryz.prog 129 #[va,vb] w fun e w'=>∃v,e=.returned v∧Mod [] w w'∧IntIs w' v (x+y):=by
 obtain⟨ba,sa,A,rfl,hsa,cA,ex,ax,dx⟩:=ha.split
 obtain⟨bb,sb,B,rfl,hsb,cB,ey,ay,dy⟩:=hb.split
 have lA:=cA.lim (by rw[ax];exact lx)
 have lB:=cB.lim (by rw[ay];exact ly)
 have C2:=hide (fun w' b v L (h:SliceK i64 w' v L) (c:Canon L)=>c_Make b v L w' h c)
 rcases Bool.eq_false_or_eq_true (ba == bb)with hab|hab
 ·have HZ:Hid (∀n:Nat,n=valS A+valS B→(if ba then -(n:Int)else n)=x+y):=by
   refine hide fun n h=>?_
   have hab2:ba=bb:=by simpa using hab
   rw[h,ex,ey,←hab2]
   cases ba<;>simp<;>omega
  have C1:=hide (fun w' (m:Mod [] w w')=>c_sAdd sa sb A B w' (hsa.mod m (by simp)) (hsb.mod m (by simp)) cA.digits cB.digits (by omega) (by omega))
  clear ha hb ex ey ax ay dx dy
  obtain⟨aa,ca,rfl⟩:=hsa.lit
  obtain⟨ab,cb,rfl⟩:=hsb.lit
  have HS:=hide (held1_start w ba bb aa ab A.length ca B.length cb)
  go_enter Tryz.func129,Tryz.ntmps129
  go_wp2_with fail
  go_region_held3 (fun w'=>w'.cell? ⟨w.heap.size,0,none⟩=some (.bool ba)∧w'.cell? ⟨w.heap.size,1,none⟩=some (.slice aa A.length ca)∧w'.cell? ⟨w.heap.size+1,0,none⟩=some (.bool bb)∧w'.cell? ⟨w.heap.size+1,1,none⟩=some (.slice ab B.length cb)∧Mod [] w w'∧IntBlk w' (w.heap.size+1+1))
   (first|exact Held1.drew HS.out|exact Held1.drew (held1_start w _ _ _ _ _ _ _ _)|exact Held1.keep (l:=[(_,_,_),(_,_,_)]) (by assumption) (by assumption)|exact Held1.store (l:=[(_,_,_),(_,_,_)]) (by intro x hx;simp only[List.mem_cons,List.not_mem_nil,or_false]at hx;rcases hx with rfl|rfl<;>(dsimp only;omega)) (by omega) (by assumption))
   (first|(go_at_call 33;refine(C1.out _ ?_).mono ?_;exact Held1.mod (l:=[(_,_,_),(_,_,_)]) (by assumption);rintro e w1 ⟨v1,L1,rfl,m1,h1,k1,e1,-⟩;have E1:=hide e1;clear e1)|(go_at_call 38;refine(C2.out _ _ _ _ h1 k1).mono ?_;rintro e w2 ⟨v2,rfl,m2,h2⟩;obtain⟨b2,a2,n2,c2,rfl⟩:=h2.lit;obtain⟨x2,y2,z2,u2,hb2⟩:=Held1.blk (w:=w) (w1:=w1) (l:=[(_,_,_),(_,_,_)]) (by assumption);have hm2:=(Held1.mod (w:=w) (w1:=w1) (l:=[(_,_,_),(_,_,_)]) (by assumption)).then m2;have hb3:=hb2.mod m2 (by simp);obtain⟨f0,f1,f2,f3⟩:=int_cells hb3))
  have hst:=fun c0 c1=>int_stored (c0:=c0) (c1:=c1) hb3 hm2 (show w.heap.size≤w.heap.size+1+1 by omega)
  go_wp2_with fail
  refine bodyPost_ret (results_int rfl rfl (hst _ _).2.2) rfl ?_
  exact⟨_,rfl,(hst _ _).1,by have:=h2.set hb3 (hst (.bool b2) (.slice a2 n2 c2)).2.1;rw[←HZ.out _ E1.out];exact this⟩
 ·have HZ1:Hid (∀n:Nat,n=valS A-valS B→valS B≤valS A→(if ba then -(n:Int)else n)=x+y):=by
   refine hide fun n h hle=>?_
   have hab2:ba≠bb:=by simpa using hab
   rw[h,ex,ey]
   cases ba<;>cases bb<;>simp at hab2 ⊢<;>omega
  have HZ2:Hid (∀n:Nat,n=valS B-valS A→valS A≤valS B→(if bb then -(n:Int)else n)=x+y):=by
   refine hide fun n h hle=>?_
   have hab2:ba≠bb:=by simpa using hab
   rw[h,ex,ey]
   cases ba<;>cases bb<;>simp at hab2 ⊢<;>omega
  have C0:=hide (fun w' (m:Mod [] w w')=>c_Cmp sa sb A B w' (hsa.mod m (by simp)) (hsb.mod m (by simp)) cA cB (by omega))
  obtain⟨cv,hcv⟩:∃cv,cv=cmpV (valS A) (valS B):=⟨_,rfl⟩
  have hcn:=cmpV_neg (valS A) (valS B)
  rw[←hcv]at C0 hcn
  have C1:Hid (valS B≤valS A→∀w',Mod [] w w'→_):=hide (fun hle w' (m:Mod [] w w')=>c_sSub sa sb A B w' (hsa.mod m (by simp)) (hsb.mod m (by simp)) cA.digits cB hle (by omega))
  have C3:Hid (valS A≤valS B→∀w',Mod [] w w'→_):=hide (fun hle w' (m:Mod [] w w')=>c_sSub sb sa B A w' (hsb.mod m (by simp)) (hsa.mod m (by simp)) cB.digits cA hle (by omega))
  clear ha hb ex ey ax ay dx dy hcv
  obtain⟨aa,ca,rfl⟩:=hsa.lit
  obtain⟨ab,cb,rfl⟩:=hsb.lit
  have H0:=hide (held1_start w ba bb aa ab A.length ca B.length cb)
  by_cases hc:cv<0
  ·have hle:=hcn.1 hc
   have C1:=hide (C3.out (by omega))
   have HLE:=hide hle
   clear hcn hle C3
   go_enter Tryz.func129,Tryz.ntmps129
   go_wp2_with fail
   refine(C0.out _ (Held1.mod H0.out)).mono ?_
   rintro e w0 ⟨rfl,m0⟩
   have HS:=hide (H0.out.keep m0)
   go_wp2_with fail
   go_region_held3 (fun w'=>w'.cell? ⟨w.heap.size,0,none⟩=some (.bool ba)∧w'.cell? ⟨w.heap.size,1,none⟩=some (.slice aa A.length ca)∧w'.cell? ⟨w.heap.size+1,0,none⟩=some (.bool bb)∧w'.cell? ⟨w.heap.size+1,1,none⟩=some (.slice ab B.length cb)∧Mod [] w w'∧IntBlk w' (w.heap.size+1+1))
    (first|exact Held1.drew HS.out|exact Held1.drew (held1_start w _ _ _ _ _ _ _ _)|exact Held1.keep (l:=[(_,_,_),(_,_,_)]) (by assumption) (by assumption)|exact Held1.store (l:=[(_,_,_),(_,_,_)]) (by intro x hx;simp only[List.mem_cons,List.not_mem_nil,or_false]at hx;rcases hx with rfl|rfl<;>(dsimp only;omega)) (by omega) (by assumption))
    (first|(go_at_call 29;refine(C1.out _ ?_).mono ?_;exact Held1.mod (l:=[(_,_,_),(_,_,_)]) (by assumption);rintro e w1 ⟨v1,L1,rfl,m1,h1,k1,e1,-⟩;have E1:=hide e1;clear e1)|(go_at_call 38;refine(C2.out _ _ _ _ h1 k1).mono ?_;rintro e w2 ⟨v2,rfl,m2,h2⟩;obtain⟨b2,a2,n2,c2,rfl⟩:=h2.lit;obtain⟨x2,y2,z2,u2,hb2⟩:=Held1.blk (w:=w) (w1:=w1) (l:=[(_,_,_),(_,_,_)]) (by assumption);have hm2:=(Held1.mod (w:=w) (w1:=w1) (l:=[(_,_,_),(_,_,_)]) (by assumption)).then m2;have hb3:=hb2.mod m2 (by simp);obtain⟨f0,f1,f2,f3⟩:=int_cells hb3))
   have hst:=fun c0 c1=>int_stored (c0:=c0) (c1:=c1) hb3 hm2 (show w.heap.size≤w.heap.size+1+1 by omega)
   go_wp2_with fail
   refine bodyPost_ret (results_int rfl rfl (hst _ _).2.2) rfl ?_
   exact⟨_,rfl,(hst _ _).1,by have:=h2.set hb3 (hst (.bool b2) (.slice a2 n2 c2)).2.1;rw[←HZ2.out _ E1.out (Nat.le_of_lt HLE.out)];exact this⟩
  ·have hle:valS B≤valS A:=Nat.le_of_not_lt (fun h=>hc (hcn.2 h))
   have C1:=hide (C1.out hle)
   have HLE:=hide hle
   clear hcn hle C3
   go_enter Tryz.func129,Tryz.ntmps129
   go_wp2_with fail
   refine(C0.out _ (Held1.mod H0.out)).mono ?_
   rintro e w0 ⟨rfl,m0⟩
   have HS:=hide (H0.out.keep m0)
   go_wp2_with fail
   go_region_held3 (fun w'=>w'.cell? ⟨w.heap.size,0,none⟩=some (.bool ba)∧w'.cell? ⟨w.heap.size,1,none⟩=some (.slice aa A.length ca)∧w'.cell? ⟨w.heap.size+1,0,none⟩=some (.bool bb)∧w'.cell? ⟨w.heap.size+1,1,none⟩=some (.slice ab B.length cb)∧Mod [] w w'∧IntBlk w' (w.heap.size+1+1))
    (first|exact Held1.drew HS.out|exact Held1.drew (held1_start w _ _ _ _ _ _ _ _)|exact Held1.keep (l:=[(_,_,_),(_,_,_)]) (by assumption) (by assumption)|exact Held1.store (l:=[(_,_,_),(_,_,_)]) (by intro x hx;simp only[List.mem_cons,List.not_mem_nil,or_false]at hx;rcases hx with rfl|rfl<;>(dsimp only;omega)) (by omega) (by assumption))
    (first|(go_at_call 29;refine(C1.out _ ?_).mono ?_;exact Held1.mod (l:=[(_,_,_),(_,_,_)]) (by assumption);rintro e w1 ⟨v1,L1,rfl,m1,h1,k1,e1,-⟩;have E1:=hide e1;clear e1)|(go_at_call 38;refine(C2.out _ _ _ _ h1 k1).mono ?_;rintro e w2 ⟨v2,rfl,m2,h2⟩;obtain⟨b2,a2,n2,c2,rfl⟩:=h2.lit;obtain⟨x2,y2,z2,u2,hb2⟩:=Held1.blk (w:=w) (w1:=w1) (l:=[(_,_,_),(_,_,_)]) (by assumption);have hm2:=(Held1.mod (w:=w) (w1:=w1) (l:=[(_,_,_),(_,_,_)]) (by assumption)).then m2;have hb3:=hb2.mod m2 (by simp);obtain⟨f0,f1,f2,f3⟩:=int_cells hb3))
   have hst:=fun c0 c1=>int_stored (c0:=c0) (c1:=c1) hb3 hm2 (show w.heap.size≤w.heap.size+1+1 by omega)
   go_wp2_with fail
   refine bodyPost_ret (results_int rfl rfl (hst _ _).2.2) rfl ?_
   exact⟨_,rfl,(hst _ _).1,by have:=h2.set hb3 (hst (.bool b2) (.slice a2 n2 c2)).2.1;rw[←HZ1.out _ E1.out HLE.out];exact this⟩
theorem results_int2{fn:Func}{t u p q:Nat}{tmps:Array Value}{v x:Value}{w:World}(h:fn.results=#[.cell t 80,.cell u 80])(hp:tmps.getD t undef=.pointer (some ⟨p,0,none⟩))(hq:tmps.getD u undef=.pointer (some ⟨q,0,none⟩))(hv:IntAt w p v)(hx:IntAt w q x) :
 (results fn tmps).run Tryz.prog w=.ok (.tuple #[v,x]) w:=by
 obtain⟨c0,c1,rfl,h0,h1⟩:=hv
 obtain⟨d0,d1,rfl,g0,g1⟩:=hx
 have hp2:tmps[t]?.getD undef=.pointer (some ⟨p,0,none⟩):=by simpa using hp
 have hq2:tmps[u]?.getD undef=.pointer (some ⟨q,0,none⟩):=by simpa using hq
 simp[results,h,hp2,hq2,asAddr,load_int h0 h1,load_int g0 g1]
theorem int_stored2{w w':World}{p q:Nat}{u v u' v':Value}{x y:Bool}{a b:Option Addr}{n c k d:Nat}(hp:Blk w' p 80 [u,v])(hq:Blk w' q 80 [u',v'])(hne:p≠q)(m:Mod [] w w')(g1:w.heap.size≤p)(g2:w.heap.size≤q)(hB:IntBlk w' p∧IntBlk w' q) :
 Mod [] w ((((w'.setCell ⟨p,0,none⟩ (.bool x)).setCell ⟨p,1,none⟩ (.slice a n c)).setCell ⟨q,0,none⟩ (.bool y)).setCell ⟨q,1,none⟩ (.slice b k d)) ∧
 IntAt ((((w'.setCell ⟨p,0,none⟩ (.bool x)).setCell ⟨p,1,none⟩ (.slice a n c)).setCell ⟨q,0,none⟩ (.bool y)).setCell ⟨q,1,none⟩ (.slice b k d)) p (.agg #[.bool x,.slice a n c]) ∧
 IntAt ((((w'.setCell ⟨p,0,none⟩ (.bool x)).setCell ⟨p,1,none⟩ (.slice a n c)).setCell ⟨q,0,none⟩ (.bool y)).setCell ⟨q,1,none⟩ (.slice b k d)) q (.agg #[.bool y,.slice b k d]) ∧
 (∀s z,IntIs w' s z→IntIs ((((w'.setCell ⟨p,0,none⟩ (.bool x)).setCell ⟨p,1,none⟩ (.slice a n c)).setCell ⟨q,0,none⟩ (.bool y)).setCell ⟨q,1,none⟩ (.slice b k d)) s z):=by
 have h1:=(hp.setCell 0 (.bool x)).setCell 1 (.slice a n c)
 have h2:=(hq.setCell_other ⟨p,0,none⟩ (.bool x) hne.symm).setCell_other ⟨p,1,none⟩ (.slice a n c) hne.symm
 refine⟨mod_store (mod_store m g1) g2,blk2 ((h1.setCell_other _ _ hne).setCell_other _ _ hne),blk2 ((h2.setCell 0 _).setCell 1 _),fun s z h=>?_⟩
 obtain⟨⟨x0,a0,n0,c0,B1⟩,⟨x1,a1,n1,c1,B2⟩⟩:=hB
 have i1:=h.set B1 (((Mod.refl [p] w').setCell ⟨p,0,none⟩ (.bool x) (by simp)).setCell ⟨p,1,none⟩ (.slice a n c) (by simp))
 exact i1.set ((B2.setCell_other ⟨p,0,none⟩ (.bool x) hne.symm).setCell_other ⟨p,1,none⟩ (.slice a n c) hne.symm) (((Mod.refl [q] _).setCell ⟨q,0,none⟩ (.bool y) (by simp)).setCell ⟨q,1,none⟩ (.slice b k d) (by simp))
set_option maxRecDepth 100000 in
theorem c_Opposite(va:Value)(x:Int)(w:World)(ha:IntIs w va x) :
 Calls Tryz.prog 100 #[va] w fun e w'=>∃v,e=.returned v∧Mod [] w w'∧IntIs w' v (-x):=by
 obtain⟨ba,sa,A,rfl,hsa,cA,ex,ax,dx⟩:=ha.split
 have HZ:Hid ((if (!ba)then -(valS A:Int)else valS A) = -x):=by
  refine hide ?_
  rw[ex]
  cases ba<;>simp
 clear ha ex ax dx
 obtain⟨aa,ca,rfl⟩:=hsa.lit
 have m0:Mod [] w ((w.alloc (.cells #[.bool ba,.slice aa A.length ca] 80)).alloc (.cells #[.bool false,.slice none 0 0] 80)):=((Mod.refl [] w).alloc _).alloc _
 have hC:=Blk.new (w.alloc (.cells #[.bool ba,.slice aa A.length ca] 80)) 80 [.bool false,.slice none 0 0]
 rw[World.size_alloc]at hC
 go_enter Tryz.func100,Tryz.ntmps100
 go_wp2_with fail
 refine(c_Make (!ba) (.slice aa A.length ca) A _ (hsa.mod m0 (by simp)) cA).mono ?_
 rintro e w2 ⟨v2,rfl,m2,h2⟩
 rw[HZ.out]at h2
 obtain⟨b2,a2,n2,c2,rfl⟩:=h2.lit
 have hb3:=hC.mod m2 (by simp)
 obtain⟨f0,f1,f2,f3⟩:=int_cells hb3
 have hst:=fun c0 c1=>int_stored (c0:=c0) (c1:=c1) hb3 (m0.then m2) (show w.heap.size≤w.heap.size+1 by omega)
 go_wp2_with fail
 refine bodyPost_ret (results_int rfl rfl (hst _ _).2.2) rfl ?_
 exact⟨_,rfl,(hst _ _).1,h2.set hb3 (hst (.bool b2) (.slice a2 n2 c2)).2.1⟩
set_option maxRecDepth 100000 in
theorem c_Minus(va vb:Value)(x y:Int)(w:World)(ha:IntIs w va x)(hb:IntIs w vb y)(lx:x.natAbs<lim)(ly:y.natAbs<lim) :
 Calls Tryz.prog 98 #[va,vb] w fun e w'=>∃v,e=.returned v∧Mod [] w w'∧IntIs w' v (x-y):=by
 obtain⟨ba,aa,na,ca,rfl⟩:=ha.lit
 obtain⟨bb,ab,nb,cb,rfl⟩:=hb.lit
 have HS:=hide (held1_start w ba bb aa ab na ca nb cb)
 have C1:=hide (fun w' (m:Mod [] w w')=>c_Opposite _ y w' (hb.mod m))
 have C2:=hide (fun w' (m:Mod [] w w') v (h:IntIs w' v (-y))=>c_Plus _ v x (-y) w' (ha.mod m) h lx (by rw[Int.natAbs_neg];exact ly))
 clear ha hb
 go_enter Tryz.func98,Tryz.ntmps98
 go_wp2_with fail
 go_region_held3 (fun w'=>w'.cell? ⟨w.heap.size,0,none⟩=some (.bool ba)∧w'.cell? ⟨w.heap.size,1,none⟩=some (.slice aa na ca)∧w'.cell? ⟨w.heap.size+1,0,none⟩=some (.bool bb)∧w'.cell? ⟨w.heap.size+1,1,none⟩=some (.slice ab nb cb)∧Mod [] w w'∧IntBlk w' (w.heap.size+1+1))
  (first|exact Held1.drew HS.out|exact Held1.keep (l:=[(_,_,_),(_,_,_)]) (by assumption) (by assumption)|exact Held1.store (l:=[(_,_,_),(_,_,_)]) (by intro x hx;simp only[List.mem_cons,List.not_mem_nil,or_false]at hx;rcases hx with rfl|rfl<;>(dsimp only;omega)) (by omega) (by assumption))
  (first|(go_at_call 100;refine(C1.out _ ?_).mono ?_;exact Held1.mod (l:=[(_,_,_),(_,_,_)]) (by assumption);rintro e w1 ⟨v1,rfl,m1,h1⟩)|(go_at_call 129;have hm1:=Held1.mod (w:=w) (w1:=w1) (l:=[(_,_,_),(_,_,_)]) (by assumption);obtain⟨x2,y2,z2,u2,hb2⟩:=Held1.blk (w:=w) (w1:=w1) (l:=[(_,_,_),(_,_,_)]) (by assumption);refine(C2.out _ hm1 _ h1).mono ?_;rintro e w2 ⟨v2,rfl,m2,h2⟩;obtain⟨b2,a2,n2,c2,rfl⟩:=h2.lit;have hm2:=hm1.then m2;have hb3:=hb2.mod m2 (by simp);obtain⟨f0,f1,f2,f3⟩:=int_cells hb3))
 have hst:=fun c0 c1=>int_stored (c0:=c0) (c1:=c1) hb3 hm2 (show w.heap.size≤w.heap.size+1+1 by omega)
 go_wp2_with fail
 refine bodyPost_ret (results_int rfl rfl (hst _ _).2.2) rfl ?_
 exact⟨_,rfl,(hst _ _).1,by have:=h2.set hb3 (hst (.bool b2) (.slice a2 n2 c2)).2.1;rwa [←Int.sub_eq_add_neg]at this⟩
def iq(x y:Int):Int:=if (decide (x<0) != decide (y<0))then -((x.natAbs/y.natAbs:Nat):Int)else ((x.natAbs/y.natAbs:Nat):Int)
def ir(x y:Int):Int:=if decide (x<0)then -((x.natAbs%y.natAbs:Nat):Int)else ((x.natAbs%y.natAbs:Nat):Int)
set_option maxRecDepth 100000 in
theorem c_QuoRem(va vb:Value)(x y:Int)(w:World)(ha:IntIs w va x)(hb:IntIs w vb y)(lx:x.natAbs<lim)(hy:y≠0) :
 Calls Tryz.prog 97 #[va,vb] w fun e w'=>∃v1 v2,e=.returned (.tuple #[v1,v2])∧Mod [] w w'∧IntIs w' v1 (iq x y)∧IntIs w' v2 (ir x y):=by
 obtain⟨ba,sa,A,rfl,hsa,cA,ex,ax,dx⟩:=ha.split
 obtain⟨bb,sb,B,rfl,hsb,cB,ey,ay,dy⟩:=hb.split
 have lA:=cA.lim (by rw[ax];exact lx)
 have HZ1:Hid (∀n:Nat,n=valS A/valS B→(if (ba != bb)then -(n:Int)else n)=iq x y):=hide fun n h=>by rw[h,ax,ay,dx,dy];rfl
 have HZ2:Hid (∀n:Nat,n=valS A%valS B→(if ba then -(n:Int)else n)=ir x y):=hide fun n h=>by rw[h,ax,ay,dx];rfl
 obtain⟨na,hna⟩:∃na,na=A.length:=⟨_,rfl⟩
 obtain⟨nb,hnb⟩:∃nb,nb=B.length:=⟨_,rfl⟩
 obtain⟨aa,ca,rfl⟩:=hsa.lit
 obtain⟨ab,cb,rfl⟩:=hsb.lit
 rw[←hna]at hsa ⊢
 rw[←hnb]at hsb ⊢
 have HS0:=hide (held2_start w ba bb aa ab na ca nb cb)
 have C1:=hide (fun w' (m:Mod [] w w')=>c_DivMod _ _ A B w' (hsa.mod m (by simp)) (hsb.mod m (by simp)) cA cB (by omega) (by omega))
 have C2:=hide (fun w' b v L (h:SliceK i64 w' v L) (c:Canon L)=>c_Make b v L w' h c)
 clear ha hb ex ey ax ay dx dy hna hnb lx hy
 go_enter Tryz.func97,Tryz.ntmps97
 go_wp2_with fail
 refine(C1.out _ (Held2.mod HS0.out)).mono ?_
 rintro e w1 ⟨v1,v2,Q,R,rfl,m1,hQ,cQ,eQ,lQ,hR,cR,eR,lR⟩
 have HS:=hide (HS0.out.keep m1)
 have EQ:=hide eQ
 have ER:=hide eR
 clear eQ eR
 obtain⟨aq,cq,rfl⟩:=hQ.lit
 obtain⟨ar,cr,rfl⟩:=hR.lit
 obtain⟨nq,hnq⟩:∃nq,nq=Q.length:=⟨_,rfl⟩
 obtain⟨nr,hnr⟩:∃nr,nr=R.length:=⟨_,rfl⟩
 rw[←hnq]at hQ ⊢
 rw[←hnr]at hR ⊢
 clear hnq hnr lQ lR
 have hQ:=hQ.mod ((Mod.refl [] w1).drew) (by simp)
 have hR:=hR.mod ((Mod.refl [] w1).drew) (by simp)
 go_wp2_with fail
 go_region_held3 (fun w'=>w'.cell? ⟨w.heap.size,0,none⟩=some (.bool ba)∧w'.cell? ⟨w.heap.size,1,none⟩=some (.slice aa na ca)∧w'.cell? ⟨w.heap.size+1,0,none⟩=some (.bool bb)∧w'.cell? ⟨w.heap.size+1,1,none⟩=some (.slice ab nb cb)∧Mod [] w w'∧IntBlk w' (w.heap.size+1+1)∧IntBlk w' (w.heap.size+1+1+1))
  (first|exact Held2.drew HS.out|exact Held2.keep (l:=[(_,_,_),(_,_,_)]) (by assumption) (by assumption)|exact Held2.store (l:=[(_,_,_),(_,_,_)]) (by intro x hx;simp only[List.mem_cons,List.not_mem_nil,or_false]at hx;rcases hx with rfl|rfl<;>(dsimp only;omega)) (by omega) (by assumption))
  (first|(go_at_call_of 38 (Value.slice aq nq cq);refine(C2.out _ _ _ _ hQ cQ).mono ?_;rintro e w2 ⟨v3,rfl,m2,h2⟩;obtain⟨b2,a2,n2,c2,rfl⟩:=h2.lit;have hR2:=hR.mod m2 (by simp))|(go_at_call_of 38 (Value.slice ar nr cr);have hm2:=Held2.mod (w:=w) (w1:=w2) (l:=[(_,_,_),(_,_,_)]) (by assumption);have hbl:=Held2.blk (w:=w) (w1:=w2) (l:=[(_,_,_),(_,_,_)]) (by assumption);refine(C2.out _ _ _ _ hR2 cR).mono ?_;rintro e w3 ⟨v4,rfl,m3,h3⟩;obtain⟨b3,a3,n3,c3,rfl⟩:=h3.lit;have hm3:=hm2.then m3;have h2':=h2.mod m3;have hbl3:=And.intro (hbl.1.mod m3) (hbl.2.mod m3);obtain⟨⟨xp,yp,zp,up,hp⟩,⟨xq,yq,zq,uq,hq⟩⟩:=id hbl3;obtain⟨f0,f1,f2,f3⟩:=int_cells hp;obtain⟨g0,g1,g2,g3⟩:=int_cells hq))
 have hst:=int_stored2 (x:=b2) (y:=b3) (a:=a2) (b:=a3) (n:=n2) (c:=c2) (k:=n3) (d:=c3) hp hq (show w.heap.size+1+1≠w.heap.size+1+1+1 by omega) hm3 (show w.heap.size≤w.heap.size+1+1 by omega) (show w.heap.size≤w.heap.size+1+1+1 by omega) hbl3
 go_wp2_with fail
 refine bodyPost_ret (results_int2 rfl rfl rfl hst.2.1 hst.2.2.1) rfl ?_
 refine⟨_,_,rfl,hst.1,?_,?_⟩
 ·rw[←HZ1.out _ EQ.out];exact hst.2.2.2 _ _ h2'
 ·rw[←HZ2.out _ ER.out];exact hst.2.2.2 _ _ h3
theorem neg_emod_nat{k m:Nat}(hm:0<m):(-(k:Int))%(m:Int)=if k%m=0 then 0 else (m:Int)-(k%m:Nat):=by
 have hk:=Nat.div_add_mod k m
 have hr:=Nat.mod_lt k hm
 generalize hq:k/m=q at *
 generalize hR:k%m=r at *
 have e:(-(k:Int))=((m:Int)-(r:Int))+(m:Int)*(-(q:Int)-1):=by
  rw[←hk,Int.natCast_add,Int.natCast_mul]
  grind
 by_cases h0:r=0
 ·rw[if_pos h0,e,Int.add_mul_emod_self_left,h0]
  simp
 ·rw[if_neg h0,e,Int.add_mul_emod_self_left,Int.emod_eq_of_lt (by omega) (by omega)]
theorem ir_eq{x y:Int}(hy:0<y):x%y=if ir x y<0 then ir x y+y else ir x y:=by
 unfold ir
 obtain⟨m,rfl⟩:∃m:Nat,y=m:=⟨y.toNat,by omega⟩
 by_cases hx:x<0
 ·obtain⟨k,rfl⟩:∃k:Nat,x = -(k:Int):=⟨x.natAbs,by omega⟩
  rw[decide_eq_true hx,if_pos rfl,neg_emod_nat (by omega)]
  simp only[Int.natAbs_neg,Int.natAbs_natCast]
  by_cases h0:k%m=0
  ·rw[if_pos h0,h0];simp
  ·rw[if_neg h0,if_pos (by omega)];omega
 ·obtain⟨k,rfl⟩:∃k:Nat,x=(k:Int):=⟨x.toNat,by omega⟩
  simp only[decide_eq_false hx,Bool.false_eq_true,if_false,Int.natAbs_natCast]
  rw[if_neg (Int.not_lt.2 (Int.natCast_nonneg _))]
  exact(Int.natCast_emod _ _).symm
theorem ir_nat(x y:Nat):ir x y=((x%y:Nat):Int):=by
 unfold ir
 rw[decide_eq_false (by omega),if_neg (by simp)]
 simp
theorem iq_nat(x y:Nat):iq x y=((x/y:Nat):Int):=by
 unfold iq
 rw[decide_eq_false (by omega),decide_eq_false (by omega),if_neg (by simp)]
 simp
theorem ir_small(x y:Int):(ir x y).natAbs≤x.natAbs:=by
 unfold ir
 have:=Nat.mod_le x.natAbs y.natAbs
 generalize x.natAbs%y.natAbs=k at *
 split<;>omega
theorem iq_small(x y:Int):(iq x y).natAbs≤x.natAbs:=by
 unfold iq
 have:=Nat.div_le_self x.natAbs y.natAbs
 generalize x.natAbs/y.natAbs=k at *
 split<;>omega
end Go.Proofs.YtfgmnbmnpihjdaaGreatDoor
