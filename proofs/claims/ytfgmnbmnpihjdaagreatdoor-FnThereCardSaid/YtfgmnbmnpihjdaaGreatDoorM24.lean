/- Lemmas of mine for the walk and its plain laws: SpecY SpecY2 Num Bez SpecZ0 -/
import Derived.Test.YtfgmnbmnpihjdaaGreatDoorM23
import Derived.Deep.DeepCutAuto
import Derived.KernelRfl
set_option linter.all false
set_option exponentiation.threshold 7000000
set_option maxHeartbeats 40000000
namespace Go.Proofs.YtfgmnbmnpihjdaaGreatDoor
set_option exponentiation.threshold 7000000
open Go.RowKit
theorem one_lim:1<lim:=by rw[lim_eq];exact Nat.one_lt_pow (by omega) (by omega)
theorem held2_three{w w1:World}{r t q:Nat}{x y z:Bool}{a b d:Option Addr}{k c n e i j:Nat}(m:Mod [] w w1)(hr:IntBlk w1 r)(ht:IntBlk w1 t)(h0:w1.cell? ⟨q,0,none⟩=some (.bool z))(h1:w1.cell? ⟨q,1,none⟩=some (.slice d i j)) :
 Held2 w ((w1.alloc (.cells #[.bool x,.slice a k c] 80)).alloc (.cells #[.bool y,.slice b n e] 80)) r t
  [(w1.heap.size,.bool x,.slice a k c),(w1.heap.size+1,.bool y,.slice b n e),(q,.bool z,.slice d i j)]:=by
 have mm:Mod [] w1 ((w1.alloc (.cells #[.bool x,.slice a k c] 80)).alloc (.cells #[.bool y,.slice b n e] 80)):=((Mod.refl [] w1).alloc _).alloc _
 have h2:=int_cells ((Blk.new w1 80 [.bool x,.slice a k c]).alloc (.cells #[.bool y,.slice b n e] 80))
 have h3:=int_cells (Blk.new (w1.alloc (.cells #[.bool x,.slice a k c] 80)) 80 [.bool y,.slice b n e])
 simp only[World.size_alloc]at h3
 exact⟨h2.1,h2.2.1,h3.1,h3.2.1,cell_mod mm h0,cell_mod mm h1,m.then mm,hr.mod mm,ht.mod mm⟩
theorem int_at_drew{w:World}{p:Nat}{v:Value}(h:IntAt w p v):IntAt w.drew p v:=by
 obtain⟨c0,c1,h1,h2,h3⟩:=h
 exact⟨c0,c1,h1,h2,h3⟩
theorem Mod.undrew(w:World):Mod [] w.drew w:=⟨rfl,rfl,rfl,Nat.le_refl _,fun _ _ _=>rfl⟩
theorem Held2.storeD{w w1:World}{r t q:Nat}{l:List (Nat×Value×Value)}{x:Bool}{a:Option Addr}{n c:Nat}(hr:∀x∈l,x.1≠q)(hw:w.heap.size≤q)(h:Held2 w w1.drew r t l):Held2 w ((w1.setCell ⟨q,0,none⟩ (.bool x)).setCell ⟨q,1,none⟩ (.slice a n c)).drew r t l:=
 ((h.keep (Mod.undrew w1)).store hr hw).drew
set_option maxRecDepth 100000 in
theorem c_Euclid(va vb:Value)(x y:Int)(w:World)(ha:IntIs w va x)(hb:IntIs w vb y)(lx:x.natAbs<lim)(ly:y.natAbs<lim)(hy:0<y) :
 Calls Tryz.prog 101 #[va,vb] w fun e w'=>∃v1 v2 z,e=.returned (.tuple #[v1,v2])∧Mod [] w w'∧IntIs w' v1 z∧IntIs w' v2 (x%y):=by
 have HE:=hide (ir_eq (x:=x) hy)
 obtain⟨ba,aa,na,ca,rfl⟩:=ha.lit
 obtain⟨bb,sb,B,hvb,hsb,cB,ey,ay,dy⟩:=hb.split
 obtain⟨bb',ab,nb,cb,rfl⟩:=hb.lit
 have hbb:bb'=false:=by
  have h1:(Value.agg #[.bool bb',.slice ab nb cb])=.agg #[.bool bb,sb]:=hvb
  simp at h1
  rw[h1.1,dy]
  exact decide_eq_false (by omega)
 subst hbb
 have HS0:=hide (held2_start w ba false aa ab na ca nb cb)
 have C1:=hide (fun w' (m:Mod [] w w')=>c_QuoRem _ _ x y w' (ha.mod m) (hb.mod m) lx (by omega))
 have C2:=hide (fun w' v v' (h:IntIs w' v (iq x y)) (h':IntIs w' v' 1)=>c_Minus v v' (iq x y) 1 w' h h' (Nat.lt_of_le_of_lt (iq_small x y) lx) one_lim)
 have C3:=hide (fun w' v (m:Mod [] w w') (h:IntIs w' v (ir x y))=>c_Plus v _ (ir x y) y w' h (hb.mod m) (Nat.lt_of_le_of_lt (ir_small x y) lx) ly)
 clear hvb hsb cB ey ay dy lx ly hy sb B bb ha hb
 go_enter Tryz.func101,Tryz.ntmps101
 go_wp2_with fail
 refine(C1.out _ (Held2.mod HS0.out)).mono ?_
 rintro e w1 ⟨v1,v2,rfl,m1,hq,hr⟩
 obtain⟨bq,aq,nq,cq,rfl⟩:=hq.lit
 obtain⟨br,sr,R,hvr,-,-,-,-,dr⟩:=hr.split
 obtain⟨br',ar,nr,cr,rfl⟩:=hr.lit
 have hbr:br'=decide (ir x y<0):=by
  have h1:(Value.agg #[.bool br',.slice ar nr cr])=.agg #[.bool br,sr]:=hvr
  simp at h1
  rw[h1.1,dr]
 have HS1:=hide (HS0.out.keep m1)
 have hg:=m1.size
 simp only[World.size_alloc]at hg
 obtain⟨k0,k1,k2,k3,k4,k5,k6⟩:=HS1.out
 clear hvr dr
 by_cases hn:ir x y<0
 ·obtain rfl:br'=true:=hbr.trans (decide_eq_true hn)
  have HN:=hide hn
  have HS:=hide (held2_three (x:=bq) (a:=aq) (k:=nq) (c:=cq) (y:=true) (b:=ar) (n:=nr) (e:=cr) k4 k5 k6 k2 k3)
  have hq1:IntIs ((w1.alloc (.cells #[.bool bq,.slice aq nq cq] 80)).alloc (.cells #[.bool true,.slice ar nr cr] 80)).drew _ _:=hq.mod (((Mod.refl [] w1).alloc _).alloc _).drew
  have hr1:IntIs ((w1.alloc (.cells #[.bool bq,.slice aq nq cq] 80)).alloc (.cells #[.bool true,.slice ar nr cr] 80)).drew _ _:=hr.mod (((Mod.refl [] w1).alloc _).alloc _).drew
  obtain⟨-,-,-,-,q4,q5,-⟩:=HS.out
  clear hbr hn hq hr
  go_wp2_with fail
  go_region_held3 (fun w'=>w'.cell? ⟨w1.heap.size,0,none⟩=some (.bool bq)∧w'.cell? ⟨w1.heap.size,1,none⟩=some (.slice aq nq cq)∧w'.cell? ⟨w1.heap.size+1,0,none⟩=some (.bool true)∧w'.cell? ⟨w1.heap.size+1,1,none⟩=some (.slice ar nr cr)∧w'.cell? ⟨w.heap.size+1,0,none⟩=some (.bool false)∧w'.cell? ⟨w.heap.size+1,1,none⟩=some (.slice ab nb cb)∧Mod [] w w'∧IntBlk w' (w.heap.size+1+1)∧IntBlk w' (w.heap.size+1+1+1))
   (first|exact Held2.drew HS.out|exact Held2.keep (l:=[(_,_,_),(_,_,_),(_,_,_)]) (by assumption) (by assumption)|exact Held2.store (l:=[(_,_,_),(_,_,_),(_,_,_)]) (by intro x hx;simp only[List.mem_cons,List.not_mem_nil,or_false]at hx;rcases hx with rfl|rfl|rfl<;>(dsimp only;omega)) (by omega) (by assumption))
   (first|(go_at_call 96;refine(c_Of64 1 (by decide) _).mono ?_;rintro e wa ⟨vo,rfl,ma,ho⟩)|(go_at_call 98;refine(C2.out _ _ _ (hq1.mod ma) ho).mono ?_;rintro e wb ⟨vm,rfl,mb,hm⟩;obtain⟨bm,am,nm,cm,rfl⟩:=hm.lit)|(go_at_call 129;have hmb:=Held2.mod (w:=w) (w1:=wb) (l:=[(_,_,_),(_,_,_),(_,_,_)]) (by assumption);have hbl:=Held2.blk (w:=w) (w1:=wb) (l:=[(_,_,_),(_,_,_),(_,_,_)]) (by assumption);refine(C3.out _ _ hmb ((hr1.mod ma).mod mb)).mono ?_;rintro e wc ⟨vp,rfl,mc,hp⟩;obtain⟨bp,ap,np,cp,rfl⟩:=hp.lit;have hmc:=hmb.then mc;have hm':=hm.mod mc;have hbl3:=And.intro (hbl.1.mod mc) (hbl.2.mod mc);obtain⟨⟨xp,yp,zp,up,hP⟩,⟨xq,yq,zq,uq,hQ⟩⟩:=id hbl3;obtain⟨f0,f1,f2,f3⟩:=int_cells hP;obtain⟨g0,g1,g2,g3⟩:=int_cells hQ))
  have hst:=int_stored2 (x:=bm) (y:=bp) (a:=am) (b:=ap) (n:=nm) (c:=cm) (k:=np) (d:=cp) hP hQ (show w.heap.size+1+1≠w.heap.size+1+1+1 by omega) hmc (show w.heap.size≤w.heap.size+1+1 by omega) (show w.heap.size≤w.heap.size+1+1+1 by omega) hbl3
  go_wp2_with fail
  refine bodyPost_ret (results_int2 rfl rfl rfl hst.2.1 hst.2.2.1) rfl ?_
  refine⟨_,_,_,rfl,hst.1,hst.2.2.2 _ _ hm',?_⟩
  have:=HE.out
  rw[if_pos HN.out]at this
  rw[this]
  exact hst.2.2.2 _ _ hp
 ·obtain rfl:br'=false:=hbr.trans (decide_eq_false hn)
  have HN:=hide hn
  have HS:=hide (held2_three (x:=bq) (a:=aq) (k:=nq) (c:=cq) (y:=false) (b:=ar) (n:=nr) (e:=cr) k4 k5 k6 k2 k3)
  have hq1:IntIs ((w1.alloc (.cells #[.bool bq,.slice aq nq cq] 80)).alloc (.cells #[.bool false,.slice ar nr cr] 80)) _ _:=hq.mod (((Mod.refl [] w1).alloc _).alloc _)
  have hr1:IntIs ((w1.alloc (.cells #[.bool bq,.slice aq nq cq] 80)).alloc (.cells #[.bool false,.slice ar nr cr] 80)) _ _:=hr.mod (((Mod.refl [] w1).alloc _).alloc _)
  have hbl3:=Held2.blk HS.out
  have hmc:=Held2.mod HS.out
  obtain⟨xp,yp,zp,up,hP1⟩:=k5
  obtain⟨xq,yq,zq,uq,hQ1⟩:=k6
  obtain⟨f0,f1,f2,f3⟩:=int_cells ((hP1.alloc (.cells #[.bool bq,.slice aq nq cq] 80)).alloc (.cells #[.bool false,.slice ar nr cr] 80))
  obtain⟨g0,g1,g2,g3⟩:=int_cells ((hQ1.alloc (.cells #[.bool bq,.slice aq nq cq] 80)).alloc (.cells #[.bool false,.slice ar nr cr] 80))
  have hP:Blk ((w1.alloc (.cells #[.bool bq,.slice aq nq cq] 80)).alloc (.cells #[.bool false,.slice ar nr cr] 80)) _ _ _:=((hP1.alloc _).alloc _)
  have hQ:Blk ((w1.alloc (.cells #[.bool bq,.slice aq nq cq] 80)).alloc (.cells #[.bool false,.slice ar nr cr] 80)) _ _ _:=((hQ1.alloc _).alloc _)
  have hst:=int_stored2 (x:=bq) (y:=false) (a:=aq) (b:=ar) (n:=nq) (c:=cq) (k:=nr) (d:=cr) hP hQ (show w.heap.size+1+1≠w.heap.size+1+1+1 by omega) hmc (show w.heap.size≤w.heap.size+1+1 by omega) (show w.heap.size≤w.heap.size+1+1+1 by omega) hbl3
  obtain⟨-,-,-,-,q4,q5,-⟩:=HS.out
  clear hbr hn hq hr
  go_wp2_with fail
  go_region_held3 (fun w'=>w'.cell? ⟨w1.heap.size,0,none⟩=some (.bool bq)∧w'.cell? ⟨w1.heap.size,1,none⟩=some (.slice aq nq cq)∧w'.cell? ⟨w1.heap.size+1,0,none⟩=some (.bool false)∧w'.cell? ⟨w1.heap.size+1,1,none⟩=some (.slice ar nr cr)∧w'.cell? ⟨w.heap.size+1,0,none⟩=some (.bool false)∧w'.cell? ⟨w.heap.size+1,1,none⟩=some (.slice ab nb cb)∧Mod [] w w'∧IntBlk w' (w.heap.size+1+1)∧IntBlk w' (w.heap.size+1+1+1))
   (first|exact Held2.drew HS.out|exact Held2.storeD (l:=[(_,_,_),(_,_,_),(_,_,_)]) (by intro x hx;simp only[List.mem_cons,List.not_mem_nil,or_false]at hx;rcases hx with rfl|rfl|rfl<;>(dsimp only;omega)) (by omega) (by assumption))
   (fail)
  go_wp2_with fail
  refine bodyPost_ret (results_int2 rfl rfl rfl (int_at_drew hst.2.1) (int_at_drew hst.2.2.1)) rfl ?_
  refine⟨_,_,_,rfl,hst.1.drew,(hst.2.2.2 _ _ hq1).mod (Mod.refl [] _).drew,?_⟩
  have:=HE.out
  rw[if_neg (by have h9:=HN.out;omega)]at this
  rw[this]
  exact(hst.2.2.2 _ _ hr1).mod (Mod.refl [] _).drew
end Go.Proofs.YtfgmnbmnpihjdaaGreatDoor
namespace Go.Proofs.YtfgmnbmnpihjdaaGreatDoor
open Go.RowKit
def Held0(w w':World)(l:List (Nat×Value×Value)):Prop:=CellsAt w' l (Mod [] w w')
theorem Held0.keep{w w1 w2:World}{l:List (Nat×Value×Value)}(h:Held0 w w1 l)(m:Mod [] w1 w2):Held0 w w2 l:=CellsAt.keep m (fun h=>h.then m) h
theorem Held0.mod{w w1:World}{l:List (Nat×Value×Value)}(h:Held0 w w1 l):Mod [] w w1:=CellsAt.last h
theorem Held0.drew{w w1:World}{l:List (Nat×Value×Value)}(h:Held0 w w1 l):Held0 w w1.drew l:=h.keep ((Mod.refl [] w1).drew)
theorem Held0.alloc{w w1:World}{l:List (Nat×Value×Value)}{o:Obj}(h:Held0 w w1 l):Held0 w (w1.alloc o) l:=h.keep ((Mod.refl [] w1).alloc _)
theorem Held0.store{w w1:World}{q:Nat}{l:List (Nat×Value×Value)}{x:Bool}{a:Option Addr}{n c:Nat}(hr:∀x∈l,x.1≠q)(hw:w.heap.size≤q)(h:Held0 w w1 l):Held0 w ((w1.setCell ⟨q,0,none⟩ (.bool x)).setCell ⟨q,1,none⟩ (.slice a n c)) l:=
 CellsAt.store (fun h=>mod_store h hw) hr h
theorem held0_start(w:World)(x:Bool)(a:Option Addr)(k c:Nat):Held0 w (w.alloc (.cells #[.bool x,.slice a k c] 80)) [(w.heap.size,.bool x,.slice a k c)]:=by
 have h1:=int_cells (Blk.new w 80 [.bool x,.slice a k c])
 exact⟨h1.1,h1.2.1,(Mod.refl [] w).alloc _⟩
theorem SliceK.ints{w w':World}{s:Value}{L ps:List Nat}(h:SliceK i64 w s L)(hps:∀p∈ps,IntBlk w p)(m:Mod ps w w'):SliceK i64 w' s L:=by
 rcases h with⟨rfl,rfl⟩|⟨b,o,c,rfl,hc,hb⟩
 ·exact .inl ⟨rfl,rfl⟩
 ·refine .inr ⟨b,o,c,rfl,hc,fun i hi=>?_⟩
  have h1:=hb i hi
  have hne:b∉ps:=by
   intro hp
   obtain⟨x,a,n,d,hC⟩:=hps b hp
   have h2:=h1
   rw[hC.cell]at h2
   rcases Nat.lt_or_ge (o+i) 2 with h3|h3
   ·rcases (by omega:o+i=0∨o+i=1)with h4|h4
    ·rw[h4]at h2;simp at h2
    ·rw[h4]at h2;simp at h2
   ·rw[List.getElem?_eq_none (by simpa using h3)]at h2;cases h2
  rw[←h1];exact World.cell?_of_block (m.block b (block_lt_of_cell h1) hne)
theorem IntIs.ints{w w':World}{v:Value}{z:Int}{ps:List Nat}(h:IntIs w v z)(hps:∀p∈ps,IntBlk w p)(m:Mod ps w w'):IntIs w' v z:=by
 obtain⟨s,L,h1,h2,h3,h4⟩:=h
 exact⟨s,L,h1,h2.ints hps m,h3,h4⟩
theorem cellsAt_frame{w1 w2:World}{P1 P2:Prop}{ps:List Nat}(m:Mod ps w1 w2)(hP:P1→P2):∀{l:List (Nat×Value×Value)},(∀x∈l,x.1∉ps)→CellsAt w1 l P1→CellsAt w2 l P2
 | [],_,h=>hP h
 |(p,u,v)::l,hl,h=>by
  have hp:p∉ps:=hl (p,u,v) (by simp)
  refine⟨?_,?_,cellsAt_frame m hP (fun x hx=>hl x (by simp[hx])) h.2.2⟩
  ·rw[←h.1];exact World.cell?_of_block (m.block p (block_lt_of_cell h.1) hp)
  ·rw[←h.2.1];exact World.cell?_of_block (m.block p (block_lt_of_cell h.2.1) hp)
theorem Held0.frame{w w1 w2:World}{l:List (Nat×Value×Value)}{ps:List Nat}(h:Held0 w w1 l)(m:Mod ps w1 w2)(hl:∀x∈l,x.1∉ps)(hps:∀p∈ps,w.heap.size≤p):Held0 w w2 l:=
 cellsAt_frame m (fun h=>h.keep m hps) hl h
theorem ints1{w:World}{p:Nat}{x:Bool}{a:Option Addr}{n c:Nat}(h:Blk w p 80 [.bool x,.slice a n c]):∀q∈[p],IntBlk w q:=by
 intro q hq;simp at hq;subst hq;exact⟨_,_,_,_,h⟩
theorem ints2{w:World}{p q:Nat}{x y:Bool}{a b:Option Addr}{n c k d:Nat}(h:Blk w p 80 [.bool x,.slice a n c])(h':Blk w q 80 [.bool y,.slice b k d]):∀t∈[p,q],IntBlk w t:=by
 intro t ht;simp at ht;rcases ht with rfl|rfl
 ·exact⟨_,_,_,_,h⟩
 ·exact⟨_,_,_,_,h'⟩
theorem blk_up{w w':World}{p T:Nat}{vs:List Value}(h:Blk w p T vs)(m:Mod [] w w'):Blk w' p T vs:=h.mod m (by simp)
set_option maxRecDepth 100000 in
theorem c_Below(va vm:Value)(x:Int)(M:List Nat)(w:World)(ha:IntIs w va x)(hm:SliceK i64 w vm M)(cM:Canon M)(lx:x.natAbs<lim)(lM:valS M<lim)(h0:valS M≠0) :
 Calls Tryz.prog 71 #[va,vm] w fun e w'=>∃v L,e=.returned v∧Mod [] w w'∧SliceK i64 w' v L∧Canon L∧(valS L:Int)=x%(valS M:Int):=by
 obtain⟨ba,aa,na,ca,rfl⟩:=ha.lit
 have HS:=hide (held0_start w ba aa na ca)
 have C1:=hide (fun w' (m:Mod [] w w')=>c_Make false vm M w' (hm.mod m (by simp)) cM)
 have C2:=hide (fun w' (m:Mod [] w w') v (h:IntIs w' v (valS M))=>c_Euclid _ v x (valS M) w' (ha.mod m) h lx (by simpa using lM) (by omega))
 have HX:Hid (0≤x%(valS M:Int)):=hide (Int.emod_nonneg _ (by omega))
 clear ha hm cM lx lM h0
 go_enter Tryz.func71,Tryz.ntmps71
 go_wp2_with fail
 go_region_held3 (fun w'=>w'.cell? ⟨w.heap.size,0,none⟩=some (.bool ba)∧w'.cell? ⟨w.heap.size,1,none⟩=some (.slice aa na ca)∧Mod [] w w')
  (first|exact hS2|exact hS1|(refine hS2.frame (ps:=[]) ?fm ?fl ?fg;(case fl=>(intro _ _;simp));(case fg=>(intro _ h;simp at h));(case fm=>(repeat (first|with_reducible exact Mod.refl _ _|with_reducible refine Mod.drew ?_|with_reducible refine Mod.alloc ?_ _|((with_reducible refine Mod.setCell ?_ _ _ ?side);(case side=>(first|(intro _;simp;done)|(intro h;exact absurd h (Nat.lt_irrefl _))|(intro h;exfalso;dsimp only at h;omega)|(intro h;simp at h;omega)|fail)))));done))|(refine hS2.frame (ps:=[w.heap.size+1]) ?fm ?fl ?fg;(case fl=>(intro x hx;simp only[List.mem_cons,List.not_mem_nil,or_false]at hx;subst hx;simp;omega));(case fg=>(intro x hx;simp at hx;omega));(case fm=>(repeat (first|with_reducible exact Mod.refl _ _|with_reducible refine Mod.drew ?_|with_reducible refine Mod.alloc ?_ _|((with_reducible refine Mod.setCell ?_ _ _ ?side);(case side=>(first|(intro _;simp;done)|(intro h;exact absurd h (Nat.lt_irrefl _))|(intro h;exfalso;dsimp only at h;omega)|(intro h;simp at h;omega)|fail)))));done))|(refine hS2.frame (ps:=[w.heap.size+1,w.heap.size+1+1]) ?fm ?fl ?fg;(case fl=>(intro x hx;simp only[List.mem_cons,List.not_mem_nil,or_false]at hx;subst hx;simp;omega));(case fg=>(intro x hx;simp at hx;omega));(case fm=>(repeat (first|with_reducible exact Mod.refl _ _|with_reducible refine Mod.drew ?_|with_reducible refine Mod.alloc ?_ _|((with_reducible refine Mod.setCell ?_ _ _ ?side);(case side=>(first|(intro _;simp;done)|(intro h;exact absurd h (Nat.lt_irrefl _))|(intro h;exfalso;dsimp only at h;omega)|(intro h;simp at h;omega)|fail)))));done))|(refine hS2.frame (ps:=[w1.heap.size]) ?fm ?fl ?fg;(case fl=>(intro x hx;simp only[List.mem_cons,List.not_mem_nil,or_false]at hx;subst hx;simp;omega));(case fg=>(intro x hx;simp at hx;omega));(case fm=>(repeat (first|with_reducible exact Mod.refl _ _|with_reducible refine Mod.drew ?_|with_reducible refine Mod.alloc ?_ _|((with_reducible refine Mod.setCell ?_ _ _ ?side);(case side=>(first|(intro _;simp;done)|(intro h;exact absurd h (Nat.lt_irrefl _))|(intro h;exfalso;dsimp only at h;omega)|(intro h;simp at h;omega)|fail)))));done))|(refine hS2.frame (ps:=[w1.heap.size,w1.heap.size+1]) ?fm ?fl ?fg;(case fl=>(intro x hx;simp only[List.mem_cons,List.not_mem_nil,or_false]at hx;subst hx;simp;omega));(case fg=>(intro x hx;simp at hx;omega));(case fm=>(repeat (first|with_reducible exact Mod.refl _ _|with_reducible refine Mod.drew ?_|with_reducible refine Mod.alloc ?_ _|((with_reducible refine Mod.setCell ?_ _ _ ?side);(case side=>(first|(intro _;simp;done)|(intro h;exact absurd h (Nat.lt_irrefl _))|(intro h;exfalso;dsimp only at h;omega)|(intro h;simp at h;omega)|fail)))));done))|(refine hS2.frame (ps:=[w.heap.size+1,w1.heap.size]) ?fm ?fl ?fg;(case fl=>(intro x hx;simp only[List.mem_cons,List.not_mem_nil,or_false]at hx;subst hx;simp;omega));(case fg=>(intro x hx;simp at hx;omega));(case fm=>(repeat (first|with_reducible exact Mod.refl _ _|with_reducible refine Mod.drew ?_|with_reducible refine Mod.alloc ?_ _|((with_reducible refine Mod.setCell ?_ _ _ ?side);(case side=>(first|(intro _;simp;done)|(intro h;exact absurd h (Nat.lt_irrefl _))|(intro h;exfalso;dsimp only at h;omega)|(intro h;simp at h;omega)|fail)))));done))|(refine hS1.frame (ps:=[]) ?fm ?fl ?fg;(case fl=>(intro _ _;simp));(case fg=>(intro _ h;simp at h));(case fm=>(repeat (first|with_reducible exact Mod.refl _ _|with_reducible refine Mod.drew ?_|with_reducible refine Mod.alloc ?_ _|((with_reducible refine Mod.setCell ?_ _ _ ?side);(case side=>(first|(intro _;simp;done)|(intro h;exact absurd h (Nat.lt_irrefl _))|(intro h;exfalso;dsimp only at h;omega)|(intro h;simp at h;omega)|fail)))));done))|(refine HS.out.frame (ps:=[]) ?fm ?fl ?fg;(case fl=>(intro _ _;simp));(case fg=>(intro _ h;simp at h));(case fm=>(repeat (first|with_reducible exact Mod.refl _ _|with_reducible refine Mod.drew ?_|with_reducible refine Mod.alloc ?_ _|((with_reducible refine Mod.setCell ?_ _ _ ?side);(case side=>(first|(intro _;simp;done)|(intro h;exact absurd h (Nat.lt_irrefl _))|(intro h;exfalso;dsimp only at h;omega)|(intro h;simp at h;omega)|fail)))));done))|fail)
  (first|(go_at_call 38;refine(C1.out _ ?_).mono ?_;exact Held0.mod (l:=[(_,_,_)]) (by assumption);rintro e w1 ⟨v1,rfl,m1,h1⟩;rw[if_neg (by simp)]at h1;have hS1:Held0 w w1 [(w.heap.size,.bool ba,.slice aa na ca)]:=HS.out.keep (Mod.then (by(repeat (first|with_reducible exact Mod.refl _ _|with_reducible refine Mod.drew ?_|with_reducible refine Mod.alloc ?_ _|((with_reducible refine Mod.setCell ?_ _ _ ?side);(case side=>(first|(intro _;simp;done)|(intro h;exact absurd h (Nat.lt_irrefl _))|(intro h;exfalso;dsimp only at h;omega)|(intro h;simp at h;omega)|fail)))));done) m1);have s1:=m1.size;(try (simp only[World.size_alloc,World.size_drew]at s1));have p1:=True.intro;have p2:=True.intro;(first|(have p1:=((Blk.new (w.alloc (.cells #[.bool ba,.slice aa na ca] 80)).drew 80 [.bool false,.slice none 0 0]).alloc _).mod m1 (by simp);have p2:=(Blk.new ((w.alloc (.cells #[.bool ba,.slice aa na ca] 80)).drew.alloc (.cells #[.bool false,.slice none 0 0] 80)) 80 [.bool false,.slice none 0 0]).mod m1 (by simp))|(have p1:=(Blk.new (w.alloc (.cells #[.bool ba,.slice aa na ca] 80)).drew 80 [.bool false,.slice none 0 0]).mod m1 (by simp))|skip);(first|(simp only[World.size_alloc,World.size_drew]at p1)|skip);(first|(have p1f:=int_cells p1;obtain⟨p10,p11,p12,p13⟩:=p1f)|skip);(first|(simp only[World.size_alloc,World.size_drew]at p2)|skip);(first|(have p2f:=int_cells p2;obtain⟨p20,p21,p22,p23⟩:=p2f)|skip))|(go_at_call 101;have hmY:Mod [] w _:=Held0.mod (l:=[(_,_,_)]) (by assumption);refine(C2.out _ hmY _ ?_).mono ?_;(first|exact h1|exact h1.mod ((Mod.refl [] _).alloc _)|exact h1.mod (((Mod.refl [] _).alloc _).alloc _));rintro e w2 ⟨vq,vr,zq,rfl,m2,hq,hr⟩;have hm2:=hmY.then m2;have hS2:Held0 w w2 [(w.heap.size,.bool ba,.slice aa na ca)]:=hS1.keep (Mod.then (by(repeat (first|with_reducible exact Mod.refl _ _|with_reducible refine Mod.drew ?_|with_reducible refine Mod.alloc ?_ _|((with_reducible refine Mod.setCell ?_ _ _ ?side);(case side=>(first|(intro _;simp;done)|(intro h;exact absurd h (Nat.lt_irrefl _))|(intro h;exfalso;dsimp only at h;omega)|(intro h;simp at h;omega)|fail)))));done) m2);have s2:=m2.size;(try (simp only[World.size_alloc]at s2));have m12:Mod [] w1 w2:=(by first|exact m2|exact((Mod.refl [] w1).alloc _).then m2|exact(((Mod.refl [] w1).alloc _).alloc _).then m2);(first|(have p1:=blk_up p1 m12;have p1f:=int_cells p1;obtain⟨p10,p11,p12,p13⟩:=p1f)|skip);(first|(have p2:=blk_up p2 m12;have p2f:=int_cells p2;obtain⟨p20,p21,p22,p23⟩:=p2f)|skip);have r1:=True.intro;have r2:=True.intro;(first|(have r1:=((Blk.new w1 80 [.bool false,.slice none 0 0]).alloc _).mod m2 (by simp);have r2:=(Blk.new (w1.alloc (.cells #[.bool false,.slice none 0 0] 80)) 80 [.bool false,.slice none 0 0]).mod m2 (by simp))|(have r1:=(Blk.new w1 80 [.bool false,.slice none 0 0]).mod m2 (by simp))|skip);(first|(simp only[World.size_alloc,World.size_drew]at r1)|skip);(first|(have r1f:=int_cells r1;obtain⟨r10,r11,r12,r13⟩:=r1f)|skip);(first|(simp only[World.size_alloc,World.size_drew]at r2)|skip);(first|(have r2f:=int_cells r2;obtain⟨r20,r21,r22,r23⟩:=r2f)|skip);obtain⟨bq,aq,nq,cq,rfl⟩:=hq.lit;obtain⟨br,ar,nr,cr,rfl⟩:=hr.lit;(first|(have p1g:=int_cells (blk_up p1 ((Mod.refl [] w2).alloc (.cells #[.bool false,.slice none 0 0] 80)));obtain⟨p14,p15,p16,p17⟩:=p1g)|skip);(first|(have p2g:=int_cells (blk_up p2 ((Mod.refl [] w2).alloc (.cells #[.bool false,.slice none 0 0] 80)));obtain⟨p24,p25,p26,p27⟩:=p2g)|skip);(first|(have r1g:=int_cells (blk_up r1 ((Mod.refl [] w2).alloc (.cells #[.bool false,.slice none 0 0] 80)));obtain⟨r14,r15,r16,r17⟩:=r1g)|skip);(first|(have r2g:=int_cells (blk_up r2 ((Mod.refl [] w2).alloc (.cells #[.bool false,.slice none 0 0] 80)));obtain⟨r24,r25,r26,r27⟩:=r2g)|skip);(first|(have p1h:=int_cells (blk_up p1 ((Mod.refl [] w2).alloc (.cells #[.bool bq,.slice aq nq cq] 80)));obtain⟨p18,p19,p1a,p1b⟩:=p1h)|skip);(first|(have p2h:=int_cells (blk_up p2 ((Mod.refl [] w2).alloc (.cells #[.bool bq,.slice aq nq cq] 80)));obtain⟨p28,p29,p2a,p2b⟩:=p2h)|skip);(first|(have r1h:=int_cells (blk_up r1 ((Mod.refl [] w2).alloc (.cells #[.bool bq,.slice aq nq cq] 80)));obtain⟨r18,r19,r1a,r1b⟩:=r1h)|skip);(first|(have r2h:=int_cells (blk_up r2 ((Mod.refl [] w2).alloc (.cells #[.bool bq,.slice aq nq cq] 80)));obtain⟨r28,r29,r2a,r2b⟩:=r2h)|skip);obtain⟨b',s',R,e1,e2,e3,-,e5,-⟩:=hr.split;simp only[Value.agg.injEq,Array.mk.injEq,List.cons.injEq,and_true]at e1;obtain⟨-,rfl⟩:=e1;have E5:=hide e5;clear e5))
 all_goals
  go_wp2_with fail
  go_ret
  refine⟨_,R,rfl,?_,?_,e3,by rw[E5.out];exact Int.natAbs_of_nonneg HX.out⟩
  ·repeat (first|exact hm2|refine Mod.drew ?_|refine Mod.alloc ?_ _|(refine Mod.setCell ?_ _ _ (by intro h;simp at h;omega)))
  ·have h:=e2
   first|(refine h.ints (ps:=[]) (by intro _ h;simp at h) ?fm;(case fm=>(repeat (first|with_reducible exact Mod.refl _ _|with_reducible refine Mod.drew ?_|with_reducible refine Mod.alloc ?_ _|((with_reducible refine Mod.setCell ?_ _ _ ?side);(case side=>(first|(intro _;simp;done)|(intro h;exact absurd h (Nat.lt_irrefl _))|(intro h;exfalso;dsimp only at h;omega)|(intro h;simp at h;omega)|fail)))));done))|(refine h.ints (ints1 p1) ?fm;(case fm=>(repeat (first|with_reducible exact Mod.refl _ _|with_reducible refine Mod.drew ?_|with_reducible refine Mod.alloc ?_ _|((with_reducible refine Mod.setCell ?_ _ _ ?side);(case side=>(first|(intro _;simp;done)|(intro h;exact absurd h (Nat.lt_irrefl _))|(intro h;exfalso;dsimp only at h;omega)|(intro h;simp at h;omega)|fail)))));done))|(refine h.ints (ints1 r1) ?fm;(case fm=>(repeat (first|with_reducible exact Mod.refl _ _|with_reducible refine Mod.drew ?_|with_reducible refine Mod.alloc ?_ _|((with_reducible refine Mod.setCell ?_ _ _ ?side);(case side=>(first|(intro _;simp;done)|(intro h;exact absurd h (Nat.lt_irrefl _))|(intro h;exfalso;dsimp only at h;omega)|(intro h;simp at h;omega)|fail)))));done))|(refine h.ints (ints2 p1 p2) ?fm;(case fm=>(repeat (first|with_reducible exact Mod.refl _ _|with_reducible refine Mod.drew ?_|with_reducible refine Mod.alloc ?_ _|((with_reducible refine Mod.setCell ?_ _ _ ?side);(case side=>(first|(intro _;simp;done)|(intro h;exact absurd h (Nat.lt_irrefl _))|(intro h;exfalso;dsimp only at h;omega)|(intro h;simp at h;omega)|fail)))));done))|(refine h.ints (ints2 p1 r1) ?fm;(case fm=>(repeat (first|with_reducible exact Mod.refl _ _|with_reducible refine Mod.drew ?_|with_reducible refine Mod.alloc ?_ _|((with_reducible refine Mod.setCell ?_ _ _ ?side);(case side=>(first|(intro _;simp;done)|(intro h;exact absurd h (Nat.lt_irrefl _))|(intro h;exfalso;dsimp only at h;omega)|(intro h;simp at h;omega)|fail)))));done))|(refine h.ints (ints2 r1 r2) ?fm;(case fm=>(repeat (first|with_reducible exact Mod.refl _ _|with_reducible refine Mod.drew ?_|with_reducible refine Mod.alloc ?_ _|((with_reducible refine Mod.setCell ?_ _ _ ?side);(case side=>(first|(intro _;simp;done)|(intro h;exact absurd h (Nat.lt_irrefl _))|(intro h;exfalso;dsimp only at h;omega)|(intro h;simp at h;omega)|fail)))));done))
end Go.Proofs.YtfgmnbmnpihjdaaGreatDoor
namespace Go.Proofs.YtfgmnbmnpihjdaaGreatDoor
def Prm(p:Nat):Prop:=1<p∧∀d,d∣p→d=1∨d=p
theorem Prm.cop{p a:Nat}(hp:Prm p)(h:¬p∣a):Nat.Coprime p a:=by
 rcases hp.2 (Nat.gcd p a) (Nat.gcd_dvd_left p a)with h1|h1
 ·exact h1
 ·exact absurd (h1▸Nat.gcd_dvd_right p a) h
theorem Prm.dvd_mul{p a b:Nat}(hp:Prm p)(h:p∣a*b):p∣a∨p∣b:=by
 by_cases ha:p∣a
 ·exact .inl ha
 ·exact .inr ((hp.cop ha).dvd_of_dvd_mul_left h)
theorem Prm.pos{p:Nat}(hp:Prm p):0<p:=by have:=hp.1;omega
def chs:Nat→Nat→Nat
 |_,0=>1
 |0,_+1=>0
 |n+1,k+1=>chs n k+chs n (k+1)
theorem chs_zero(n:Nat):chs n 0=1:=by cases n<;>rfl
theorem chs_gt:∀{n k:Nat},n<k→chs n k=0
 |0,0,h=>by omega
 |0,_+1,_=>rfl
 |n+1,0,h=>by omega
 |n+1,k+1,h=>by simp only[chs];rw[chs_gt (by omega),chs_gt (by omega)]
theorem chs_self:∀n,chs n n=1
 |0=>rfl
 |n+1=>by simp only[chs];rw[chs_self n,chs_gt (by omega)]
theorem chs_mul:∀n k,(k+1)*chs (n+1) (k+1)=(n+1)*chs n k
 |0,0=>rfl
 |0,k+1=>by simp[chs]
 |n+1,0=>by
  have:=chs_mul n 0
  simp only[chs,chs_zero]at *
  omega
 |n+1,k+1=>by
  have h1:=chs_mul n k
  have h2:=chs_mul n (k+1)
  have e1:chs (n+1+1) (k+1+1)=chs (n+1) (k+1)+chs (n+1) (k+1+1):=rfl
  have e2:chs (n+1) (k+1)=chs n k+chs n (k+1):=rfl
  rw[e1]
  generalize chs (n+1) (k+1)=x at *
  generalize chs (n+1) (k+1+1)=y at *
  generalize chs n k=u at *
  generalize chs n (k+1)=v at *
  subst e2
  grind
def bsum(n a:Nat):Nat→Nat
 |0=>0
 |m+1=>bsum n a m+chs n m*a^m
theorem bsum_step(n a:Nat):∀m,bsum (n+1) a (m+1)=bsum n a (m+1)+a*bsum n a m
 |0=>by simp[bsum,chs_zero]
 |m+1=>by
  have ih:=bsum_step n a m
  have e1:bsum (n+1) a (m+1+1)=bsum (n+1) a (m+1)+chs (n+1) (m+1)*a^(m+1):=rfl
  have e2:bsum n a (m+1+1)=bsum n a (m+1)+chs n (m+1)*a^(m+1):=rfl
  have e3:bsum n a (m+1)=bsum n a m+chs n m*a^m:=rfl
  have e4:chs (n+1) (m+1)=chs n m+chs n (m+1):=rfl
  rw[e1,ih,e2,e4,Nat.pow_succ]
  rw[e3]
  grind
theorem bsum_eq(a:Nat):∀n,bsum n a (n+1)=(1+a)^n
 |0=>by simp[bsum,chs_zero]
 |n+1=>by
  have ih:=bsum_eq a n
  have h:=bsum_step n a (n+1)
  have e:bsum n a (n+1+1)=bsum n a (n+1):=by
   show bsum n a (n+1)+chs n (n+1)*a^(n+1)=_
   rw[chs_gt (by omega)];simp
  rw[h,e,ih,Nat.pow_succ]
  grind
theorem Prm.chs{p k:Nat}(hp:Prm p)(h0:0<k)(hk:k<p):p∣chs p k:=by
 obtain⟨n,rfl⟩:∃n,p=n+1:=⟨p-1,by have:=hp.1;omega⟩
 obtain⟨j,rfl⟩:∃j,k=j+1:=⟨k-1,by omega⟩
 have h:(n+1)∣(j+1)*Go.Proofs.YtfgmnbmnpihjdaaGreatDoor.chs (n+1) (j+1):=by rw[chs_mul];exact Nat.dvd_mul_right _ _
 rcases hp.dvd_mul h with h|h
 ·have:=Nat.le_of_dvd (by omega) h;omega
 ·exact h
theorem Prm.frob{p:Nat}(hp:Prm p)(a:Nat):(1+a)^p%p=(1+a^p)%p:=by
 have hm:∀m,m<p→bsum p a (m+1)%p=1%p:=by
  intro m
  induction m with
  |zero=>intro _;simp[bsum,chs_zero]
  |succ m ih=>
   intro h
   obtain⟨c,hc⟩:=hp.chs (k:=m+1) (by omega) h
   show(bsum p a (m+1)+Go.Proofs.YtfgmnbmnpihjdaaGreatDoor.chs p (m+1)*a^(m+1))%p=_
   rw[hc,Nat.mul_assoc,Nat.add_mul_mod_self_left]
   exact ih (by omega)
 have h:=hm (p-1) (by have:=hp.1;omega)
 rw[show p-1+1=p by have:=hp.1;omega]at h
 rw[←bsum_eq a p]
 show(bsum p a p+Go.Proofs.YtfgmnbmnpihjdaaGreatDoor.chs p p*a^p)%p=_
 rw[chs_self,Nat.one_mul,Nat.add_mod,h,←Nat.add_mod]
theorem Prm.fermat{p:Nat}(hp:Prm p)(a:Nat):a^p%p=a%p:=by
 induction a with
 |zero=>rw[Nat.zero_pow hp.pos]
 |succ a ih=>rw[Nat.add_comm a 1,hp.frob a,Nat.add_mod,ih,←Nat.add_mod]
theorem Prm.fermat1{p a:Nat}(hp:Prm p)(h:¬p∣a):a^(p-1)%p=1:=by
 have h1:=hp.fermat a
 have hp1:=hp.1
 have hpos:1≤a^(p-1):=Nat.pow_pos (Nat.pos_of_ne_zero (fun h0=>h (by rw[h0];exact Nat.dvd_zero p)))
 have e:a^p=a*a^(p-1):=by
  have e1:a^(p-1+1)=a*a^(p-1):=by rw[Nat.pow_succ,Nat.mul_comm]
  rwa [show p-1+1=p by omega]at e1
 have h2:p∣a*(a^(p-1)-1):=by
  rw[Nat.mul_sub,Nat.mul_one,←e]
  exact Nat.dvd_of_mod_eq_zero (Nat.sub_mod_eq_zero_of_mod_eq h1)
 rcases hp.dvd_mul h2 with h3|h3
 ·exact absurd h3 h
 ·obtain⟨c,hc⟩:=h3
  have:a^(p-1)=1+p*c:=by omega
  rw[this,Nat.add_mul_mod_self_left,Nat.mod_eq_of_lt hp1]
structure Exps(E:Nat→Prop):Prop where
 zero:E 0
 add:∀m n,E m→(E (m+n)↔E n)
theorem Exps.mul{E:Nat→Prop}(h:Exps E){m:Nat}(hm:E m):∀j,E (m*j)
 |0=>h.zero
 |j+1=>by rw[Nat.mul_add,Nat.mul_one,Nat.add_comm];exact(h.add m _ hm).2 (h.mul hm j)
theorem Exps.mod{E:Nat→Prop}(h:Exps E){m n:Nat}(hm:E m)(hn:E n):E (n%m):=by
 have h1:=h.mul hm (n/m)
 have h2:=Nat.div_add_mod n m
 rw[←h2]at hn
 exact(h.add _ _ h1).1 hn
theorem Exps.gcd{E:Nat→Prop}(h:Exps E):∀m n,E m→E n→E (Nat.gcd m n):=by
 intro m n
 induction m,n using Nat.gcd.induction with
 |H0 n=>intro _ hn;rw[Nat.gcd_zero_left];exact hn
 |H1 m n hpos ih=>intro hm hn;rw[Nat.gcd_rec];exact ih (h.mod hm hn) hm
theorem Prm.dvd_pow{r:Nat}(hr:Prm r):∀{e x:Nat},x∣r^(e+1)→x≠r^(e+1)→x∣r^e
 |e,x,h,hne=>by
  by_cases hx:r∣x
  ·obtain⟨y,rfl⟩:=hx
   have h1:y∣r^e:=by
    rw[Nat.pow_succ,Nat.mul_comm (r^e) r]at h
    exact Nat.dvd_of_mul_dvd_mul_left hr.pos h
   have h2:y≠r^e:=fun h2=>hne (by rw[h2,Nat.pow_succ,Nat.mul_comm])
   cases e with
   |zero=>
    rw[Nat.pow_zero]at h1 h2
    exact absurd (Nat.dvd_one.1 h1) h2
   |succ e=>
    have h3:=hr.dvd_pow h1 h2
    rw[Nat.pow_succ,Nat.mul_comm]
    exact Nat.mul_dvd_mul h3 (Nat.dvd_refl r)
  ·rw[Nat.pow_succ]at h
   exact(Nat.Coprime.symm (hr.cop hx)).dvd_of_dvd_mul_right h
theorem Exps.order{E:Nat→Prop}(h:Exps E){r e k m:Nat}(hr:Prm r)(hE:E (r^(e+1)*k))(hne:¬E (r^e*k))(hm:E m):r^(e+1)∣m:=by
 have hg:=h.gcd _ _ hE hm
 by_cases hd:r^(e+1)∣m
 ·exact hd
 ·exfalso
  apply hne
  generalize hgg:Nat.gcd (r^(e+1)*k) m=g at hg
  have g1:g∣r^(e+1)*k:=hgg▸Nat.gcd_dvd_left _ _
  have g2:g∣m:=hgg▸Nat.gcd_dvd_right _ _
  have hpos:0<Nat.gcd g (r^(e+1)):=Nat.gcd_pos_of_pos_right _ (Nat.pow_pos hr.pos)
  have hx1:Nat.gcd g (r^(e+1))∣r^e:=by
   refine hr.dvd_pow (Nat.gcd_dvd_right _ _) (fun hx=>hd (Nat.dvd_trans ?_ g2))
   rw[←hx]
   exact Nat.gcd_dvd_left _ _
  generalize hxx:Nat.gcd g (r^(e+1))=x at hpos hx1
  have hcop:Nat.Coprime (g/x) (r^(e+1)/x):=by rw[←hxx]at hpos ⊢;exact Nat.coprime_div_gcd_div_gcd hpos
  have hxg:x∣g:=hxx▸Nat.gcd_dvd_left _ _
  have hxr:x∣r^(e+1):=hxx▸Nat.gcd_dvd_right _ _
  obtain⟨g',rfl⟩:=hxg
  obtain⟨s,hs⟩:=hxr
  rw[hs,Nat.mul_div_cancel_left _ hpos,Nat.mul_div_cancel_left _ hpos]at hcop
  rw[hs,Nat.mul_assoc]at g1
  have g3:=hcop.dvd_of_dvd_mul_left (Nat.dvd_of_mul_dvd_mul_left hpos g1)
  obtain⟨c,hc⟩:=Nat.mul_dvd_mul hx1 g3
  rw[hc]
  exact h.mul hg c
theorem exps_pow{q a:Nat}(hq:1<q):Exps (fun n=>a^n%q=1):=
 ⟨by rw[Nat.pow_zero];exact Nat.mod_eq_of_lt hq,fun m n hm=>by
   show a^(m+n)%q=1↔a^n%q=1
   rw[Nat.pow_add,Nat.mul_mod,hm,Nat.one_mul,Nat.mod_mod]⟩
end Go.Proofs.YtfgmnbmnpihjdaaGreatDoor
namespace Go.Proofs.YtfgmnbmnpihjdaaGreatDoor
structure BezAt(a b x y:Nat)(p q r s:Int):Prop where
 ex:p*a+q*b=x
 ey:r*a+s*b=y
 gcd:Nat.gcd x y=Nat.gcd a b
 sp:(0≤p∧r≤0)∨(p≤0∧0≤r)
 sq:(0≤q∧s≤0)∨(q≤0∧0≤s)
 bp:r.natAbs*x+p.natAbs*y=b
 bq:s.natAbs*x+q.natAbs*y=a
 lp:p.natAbs≤b+1∧r.natAbs≤b+1
 lq:q.natAbs≤a+1∧s.natAbs≤a+1
theorem BezAt.start(a b:Nat):BezAt a b a b 1 0 0 1:=
 ⟨by simp,by simp,rfl,by omega,by omega,by simp,by simp,by simp,by simp⟩
theorem natAbs_step{p r:Int}(k:Nat)(h:(0≤p∧r≤0)∨(p≤0∧0≤r)):(p-k*r).natAbs=p.natAbs+k*r.natAbs∧((0≤r∧p-k*r≤0)∨(r≤0∧0≤p-k*r)):=by
 have hk:(0:Int)≤k:=by omega
 rcases h with⟨h1,h2⟩|⟨h1,h2⟩
 ·obtain⟨u,rfl⟩:∃u:Nat,p=u:=⟨p.toNat,by omega⟩
  obtain⟨v,rfl⟩:∃v:Nat,r = -v:=⟨(-r).toNat,by omega⟩
  have e:(u:Int)-k * -v=((u+k*v:Nat):Int):=by simp[Int.mul_neg]
  rw[e]
  refine⟨by rw[Int.natAbs_natCast,Int.natAbs_neg,Int.natAbs_natCast,Int.natAbs_natCast],.inr ⟨by omega,by omega⟩⟩
 ·obtain⟨u,rfl⟩:∃u:Nat,p = -u:=⟨(-p).toNat,by omega⟩
  obtain⟨v,rfl⟩:∃v:Nat,r=v:=⟨r.toNat,by omega⟩
  have e : -(u:Int)-k*v = -((u+k*v:Nat):Int):=by simp;omega
  rw[e]
  refine⟨by rw[Int.natAbs_neg,Int.natAbs_neg,Int.natAbs_natCast,Int.natAbs_natCast,Int.natAbs_natCast],.inl ⟨by omega,by omega⟩⟩
theorem BezAt.next{a b x y:Nat}{p q r s:Int}(h:BezAt a b x y p q r s)(hy:0<y):BezAt a b y (x%y) r s (p-(x/y:Nat)*r) (q-(x/y:Nat)*s):=by
 obtain⟨n1,s1⟩:=natAbs_step (x/y) h.sp
 obtain⟨n2,s2⟩:=natAbs_step (x/y) h.sq
 have hx:=Nat.div_add_mod x y
 have h1:=h.bp
 have h2:=h.bq
 have b1:(p-(x/y:Nat)*r).natAbs*y+r.natAbs*(x%y)=b:=by
  rw[n1,←h1]
  generalize x/y=k at *
  generalize x%y=m at *
  rw[←hx]
  grind
 have b2:(q-(x/y:Nat)*s).natAbs*y+s.natAbs*(x%y)=a:=by
  rw[n2,←h2]
  generalize x/y=k at *
  generalize x%y=m at *
  rw[←hx]
  grind
 refine⟨h.ey,?_,?_,s1,s2,b1,b2,⟨h.lp.2,?_⟩,⟨h.lq.2,?_⟩⟩
 ·have e1:=h.ex
  have e2:=h.ey
  have e3:((x%y:Nat):Int)=x-y*(x/y:Nat):=by
   have:(x:Int)=((y*(x/y)+x%y:Nat):Int):=by rw[hx]
   rw[Int.natCast_add,Int.natCast_mul]at this
   omega
  rw[e3,←e1,←e2]
  generalize ((x/y:Nat):Int)=k
  grind
 ·rw[←h.gcd,Nat.gcd_comm x y,Nat.gcd_rec y x,Nat.gcd_comm]
 ·have:(p-(x/y:Nat)*r).natAbs*1≤(p-(x/y:Nat)*r).natAbs*y:=Nat.mul_le_mul_left _ hy
  omega
 ·have:(q-(x/y:Nat)*s).natAbs*1≤(q-(x/y:Nat)*s).natAbs*y:=Nat.mul_le_mul_left _ hy
  omega
theorem BezAt.small{a b x y:Nat}{p q r s:Int}(h:BezAt a b x y p q r s):(x/y)*r.natAbs≤b∧(x/y)*s.natAbs≤a:=by
 have hx:=Nat.div_mul_le_self x y
 have h1:=h.bp
 have h2:=h.bq
 have h3:x/y≤x:=Nat.div_le_self _ _
 have h4:r.natAbs*(x/y)≤r.natAbs*x:=Nat.mul_le_mul_left _ h3
 have h5:s.natAbs*(x/y)≤s.natAbs*x:=Nat.mul_le_mul_left _ h3
 rw[Nat.mul_comm]at h4 h5
 omega
end Go.Proofs.YtfgmnbmnpihjdaaGreatDoor
namespace Go.Proofs.YtfgmnbmnpihjdaaGreatDoor
open Go.RowKit
def IntBox(w:World)(p:Nat)(z:Int):Prop:=∃b a n c,Blk w p 80 [.bool b,.slice a n c]∧IntIs w (.agg #[.bool b,.slice a n c]) z
theorem IntBox.up{w w':World}{p:Nat}{z:Int}(h:IntBox w p z)(m:Mod [] w w'):IntBox w' p z:=by
 obtain⟨b,a,n,c,h1,h2⟩:=h
 exact⟨b,a,n,c,blk_up h1 m,h2.mod m⟩
theorem IntBox.lt{w:World}{p:Nat}{z:Int}(h:IntBox w p z):p<w.heap.size:=by
 obtain⟨b,a,n,c,h1,h2⟩:=h
 exact h1.lt
theorem IntBox.blk{w:World}{p:Nat}{z:Int}(h:IntBox w p z):IntBlk w p:=by
 obtain⟨b,a,n,c,h1,h2⟩:=h
 exact⟨_,_,_,_,h1⟩
abbrev putInt(w:World)(p:Nat)(b:Bool)(a:Option Addr)(n c:Nat):World:=(w.setCell ⟨p,0,none⟩ (.bool b)).setCell ⟨p,1,none⟩ (.slice a n c)
theorem putInt_mod{w0 w:World}{p:Nat}{b:Bool}{a:Option Addr}{n c:Nat}(m:Mod [] w0 w)(hp:w0.heap.size≤p):Mod [] w0 (putInt w p b a n c):=mod_store m hp
theorem IntIs.put{w:World}{p:Nat}{b:Bool}{a:Option Addr}{n c:Nat}{v:Value}{z:Int}(h:IntIs w v z)(hp:IntBlk w p):IntIs (putInt w p b a n c) v z:=by
 obtain⟨x,a',n',c',hb⟩:=hp
 exact h.set hb (((Mod.refl [p] w).setCell ⟨p,0,none⟩ (.bool b) (by simp)).setCell ⟨p,1,none⟩ (.slice a n c) (by simp))
theorem IntBox.putSame{w:World}{p:Nat}{b:Bool}{a:Option Addr}{n c:Nat}{z:Int}(h:IntIs w (.agg #[.bool b,.slice a n c]) z)(hp:IntBlk w p):IntBox (putInt w p b a n c) p z:=by
 have h2:=h.put (b:=b) (a:=a) (n:=n) (c:=c) hp
 obtain⟨x,a',n',c',hb⟩:=hp
 exact⟨b,a,n,c,(hb.setCell 0 (.bool b)).setCell 1 (.slice a n c),h2⟩
theorem IntBox.put{w:World}{p q:Nat}{b:Bool}{a:Option Addr}{n c:Nat}{z:Int}(h:IntBox w q z)(hp:IntBlk w p)(hq:q≠p):IntBox (putInt w p b a n c) q z:=by
 obtain⟨b',a',n',c',h1,h2⟩:=h
 exact⟨b',a',n',c',(h1.setCell_other _ _ hq).setCell_other _ _ hq,h2.put hp⟩
theorem IntBlk.put{w:World}{p q:Nat}{b:Bool}{a:Option Addr}{n c:Nat}(h:IntBlk w q):IntBlk (putInt w p b a n c) q:=h.store
theorem SliceK.put{w:World}{p:Nat}{b:Bool}{a:Option Addr}{n c:Nat}{v:Value}{L:List Nat}(h:SliceK i64 w v L)(hp:IntBlk w p):SliceK i64 (putInt w p b a n c) v L:=by
 obtain⟨x,a',n',c',hb⟩:=hp
 exact h.setInt hb (by intro k;simp) (((Mod.refl [p] w).setCell ⟨p,0,none⟩ (.bool b) (by simp)).setCell ⟨p,1,none⟩ (.slice a n c) (by simp))
theorem intBlk_new(w:World):IntBlk (w.alloc (.cells #[.bool false,.slice none 0 0] 80)) w.heap.size:=⟨_,_,_,_,Blk.new w _ [.bool false,.slice none 0 0]⟩
theorem intBox_new{w:World}{b:Bool}{a:Option Addr}{n c:Nat}{z:Int}(h:IntIs w (.agg #[.bool b,.slice a n c]) z):IntBox (w.alloc (.cells #[.bool b,.slice a n c] 80)) w.heap.size z:=
 ⟨b,a,n,c,Blk.new w _ [.bool b,.slice a n c],h.mod ((Mod.refl [] w).alloc _)⟩
theorem intBox_new2{w:World}{p:Nat}{b:Bool}{a:Option Addr}{n c:Nat}{z:Int}(hp:p=w.heap.size)(h:IntIs w (.agg #[.bool b,.slice a n c]) z):IntBox (w.alloc (.cells #[.bool b,.slice a n c] 80)) p z:=hp▸intBox_new h
theorem intBlk_new2{w:World}{p:Nat}{b:Bool}{a:Option Addr}{n c:Nat}(hp:p=w.heap.size):IntBlk (w.alloc (.cells #[.bool b,.slice a n c] 80)) p:=hp▸⟨_,_,_,_,Blk.new w _ [.bool b,.slice a n c]⟩
theorem IntBlk.of{w:World}{p:Nat}{b:Bool}{a:Option Addr}{n c:Nat}(h:Blk w p 80 [.bool b,.slice a n c]):IntBlk w p:=⟨_,_,_,_,h⟩
theorem Blk.put{w:World}{p q T:Nat}{vs:List Value}{b:Bool}{a:Option Addr}{n c:Nat}(h:Blk w q T vs)(hq:q≠p):Blk (putInt w p b a n c) q T vs:=(h.setCell_other _ _ hq).setCell_other _ _ hq
theorem int_new2{w:World}{b1 b2:Bool}{a1 a2:Option Addr}{n1 c1 n2 c2:Nat}{z1 z2:Int}(h1:IntIs w (.agg #[.bool b1,.slice a1 n1 c1]) z1)(h2:IntIs w (.agg #[.bool b2,.slice a2 n2 c2]) z2) :
 Mod [] w (putInt (putInt ((w.alloc (.cells #[.bool false,.slice none 0 0] 80)).alloc (.cells #[.bool false,.slice none 0 0] 80)) w.heap.size b1 a1 n1 c1) (w.heap.size+1) b2 a2 n2 c2) ∧
 IntBox (putInt (putInt ((w.alloc (.cells #[.bool false,.slice none 0 0] 80)).alloc (.cells #[.bool false,.slice none 0 0] 80)) w.heap.size b1 a1 n1 c1) (w.heap.size+1) b2 a2 n2 c2) w.heap.size z1 ∧
 IntBox (putInt (putInt ((w.alloc (.cells #[.bool false,.slice none 0 0] 80)).alloc (.cells #[.bool false,.slice none 0 0] 80)) w.heap.size b1 a1 n1 c1) (w.heap.size+1) b2 a2 n2 c2) (w.heap.size+1) z2:=by
 have m:Mod [] w ((w.alloc (.cells #[.bool false,.slice none 0 0] 80)).alloc (.cells #[.bool false,.slice none 0 0] 80)):=((Mod.refl [] w).alloc _).alloc _
 have k1:=(intBlk_new w).mod ((Mod.refl [] _).alloc (.cells #[.bool false,.slice none 0 0] 80))
 have k2:=intBlk_new (w.alloc (.cells #[.bool false,.slice none 0 0] 80))
 rw[World.size_alloc]at k2
 refine⟨putInt_mod (putInt_mod m (Nat.le_refl _)) (Nat.le_succ _),?_,?_⟩
 ·exact(IntBox.putSame (h1.mod m) k1).put k2.put (by omega)
 ·exact IntBox.putSame ((h2.mod m).put k1) k2.put
end Go.Proofs.YtfgmnbmnpihjdaaGreatDoor
