/- Lemmas of mine for the walk and its plain laws: SpecKey SpecKof BytesEq -/
import Derived.Test.YtfgmnbmnpihjdaaGreatDoorM44
import Derived.Deep.RegionHeld3
import Derived.Test.YtfgmnbmnpihjdaaGreatDoorM41
import Derived.Test.YtfgmnbmnpihjdaaGreatDoorM14
import Derived.Shelf.Bytes.SlSmallAll
set_option linter.all false
set_option exponentiation.threshold 7000000
set_option maxHeartbeats 8000000
namespace Go.Proofs.YtfgmnbmnpihjdaaGreatDoor
set_option exponentiation.threshold 7000000
open Go.RowKit
structure KeyV(w:World)(vN vD vP vQ:Value)(E:Int)(N D P Q:Nat):Prop where
 n:NatV w vN N
 d:NatV w vD D
 p:NatV w vP P
 q:NatV w vQ Q
 bN:blen N≤4000
 bD:blen D≤4000
 bP:blen P≤4000
 bQ:blen Q≤4000
theorem KeyV.mod{w w':World}{vN vD vP vQ:Value}{E:Int}{N D P Q:Nat}(h:KeyV w vN vD vP vQ E N D P Q)(m:Mod [] w w'):KeyV w' vN vD vP vQ E N D P Q:=
 {h with n:=h.n.mod m,d:=h.d.mod m,p:=h.p.mod m,q:=h.q.mod m}
def KeyOk(i j e:Nat)(E:Int)(N D P Q:Nat):Prop:=i≠j∧3≤e∧E=e∧N=nth prs i*nth prs j∧P=nth prs i∧Q=nth prs j∧D<leastV (nth prs i) (nth prs j)∧e*D%leastV (nth prs i) (nth prs j)=1
theorem pair_facts{i j:Nat}(hi:i<10)(hj:j<10)(hij:i≠j):2147483648≤leastV (nth prs i) (nth prs j)∧leastV (nth prs i) (nth prs j)+leastV (nth prs i) (nth prs j)+2<lim∧blen (nth prs i*nth prs j)≤4000∧Nat.gcd (nth prs i-1) (nth prs j-1)≠0∧(nth prs i-1)*(nth prs j-1)<lim∧(∀d,d<leastV (nth prs i) (nth prs j)→blen d≤4000):=by
 obtain⟨hne,hlong,hnear⟩:=prs_pairs i hi j hj hij
 obtain⟨p1,p2,p3⟩:=prs_ok _ (nth_prs hi)
 obtain⟨q1,q2,q3⟩:=prs_ok _ (nth_prs hj)
 generalize nth prs i=p at *
 generalize nth prs j=q at *
 have hle:=leastV_le p q
 have h190:2147483648≤2^190:=by decide +kernel
 have h31:2147483648≤2^(Nat.log2 (p*q)/2+40):=by
  have:2^31≤2^(Nat.log2 (p*q)/2+40):=Nat.pow_le_pow_right (by omega) (by omega)
  omega
 have hpq:p*q<2^1214:=by
  rw[show(1214:Nat)=607+607 by rfl,Nat.pow_add]
  exact Nat.mul_lt_mul'' p2 q2
 have hpq2:(p-1)*(q-1)≤p*q:=Nat.mul_le_mul (by omega) (by omega)
 have hl:2^1214+2^1214+2<lim:=by
  have h1:2^1214+2^1214+2<2^320000:=by
   have a1:2^1214*2=2^1215:=(Nat.pow_succ 2 1214).symm
   have a2:2^1215*2=2^1216:=(Nat.pow_succ 2 1215).symm
   have a3:2^1216<2^320000:=Nat.pow_lt_pow_right (by omega) (by omega)
   have a4:2^1≤2^1214:=Nat.pow_le_pow_right (by omega) (by omega)
   generalize 2^320000=X at *
   omega
  rw[lim_eq,show(65536:Nat)=2^16 by rfl,←Nat.pow_mul]
  exact h1
 have hb:∀x,x<2^1214→blen x≤4000:=fun x h=>Nat.le_trans (blen_le h) (by omega)
 generalize 2^1214=Y at *
 have hL:leastV p q<Y:=Nat.lt_of_le_of_lt hle (Nat.lt_of_le_of_lt hpq2 hpq)
 have hM:(p-1)*(q-1)<Y:=Nat.lt_of_le_of_lt hpq2 hpq
 refine⟨Nat.le_trans h31 hlong,?_,hb _ hpq,?_,?_,fun d h=>hb d (Nat.lt_trans h hL)⟩
 ·generalize leastV p q=l at *
  omega
 ·exact Nat.ne_of_gt (Nat.gcd_pos_of_pos_left _ (by omega))
 ·generalize (p-1)*(q-1)=m at *
  omega
theorem natV_nil(w:World):NatV w (.slice none 0 0) 0:=⟨[],.inl ⟨rfl,rfl⟩,by constructor<;>simp[nth,Digits],rfl⟩
theorem results_key{fn:Func}{t u p:Nat}{tmps:Array Value}{v0 v1 v2 v3 v4 x:Value}{w:World}(h:fn.results=#[.cell t 27,.tmp u])(hp:tmps.getD t undef=.pointer (some ⟨p,0,none⟩))(hx:tmps.getD u undef=x)
 (h0:w.cell? ⟨p,0,none⟩=some v0) (h1:w.cell? ⟨p,1,none⟩=some v1) (h2:w.cell? ⟨p,2,none⟩=some v2) (h3:w.cell? ⟨p,3,none⟩=some v3) (h4:w.cell? ⟨p,4,none⟩=some v4) :
 (results fn tmps).run Tryz.prog w=.ok (.tuple #[.agg #[v0,v1,v2,v3,v4],x]) w:=by
 have hl:(loadVar 27 ⟨p,0,none⟩).run Tryz.prog w=.ok (.agg #[v0,v1,v2,v3,v4]) w:=by go_simp
 have hp2:tmps[t]?.getD undef=.pointer (some ⟨p,0,none⟩):=by simpa using hp
 have hx2:tmps[u]?.getD undef=x:=by simpa using hx
 simp[results,h,hp2,hx2,asAddr,hl]
theorem natV_key{w w':World}{v:Value}{n K:Nat}(h:NatV w v n)(hK:Blk w K 27 [.slice none 0 0,.slice none 0 0,.slice none 0 0,.slice none 0 0,.int .i64 0])(m:Mod [K] w w'):NatV w' v n:=by
 obtain⟨L,h1,h2,h3⟩:=h
 refine⟨L,?_,h2,h3⟩
 rcases h1 with⟨rfl,rfl⟩|⟨b,o,c,rfl,hc,hb⟩
 ·exact .inl ⟨rfl,rfl⟩
 ·refine .inr ⟨b,o,c,rfl,hc,fun i hi=>?_⟩
  have hne:b≠K:=by
   rintro rfl
   have h4:=hb (L.length-1) (by omega)
   have h5:=h2.top (by omega)
   rw[hK.cell]at h4
   generalize hx:nth L (L.length-1)=x at *
   rcases (by omega:o+(L.length-1)=0∨o+(L.length-1)=1∨o+(L.length-1)=2∨o+(L.length-1)=3∨o+(L.length-1)=4∨5≤o+(L.length-1))with e|e|e|e|e|e
   ·rw[e]at h4;simp at h4
   ·rw[e]at h4;simp at h4
   ·rw[e]at h4;simp at h4
   ·rw[e]at h4;simp at h4
   ·rw[e]at h4;simp at h4;omega
   ·rw[List.getElem?_eq_none (by simpa using e)]at h4;cases h4
  rw[←hb i hi]
  exact World.cell?_of_block (m.block b (block_lt_of_cell (hb i hi)) (by simpa using hne))
def GS(w:World)(g i j:Nat)(v u:Value)(w':World):Prop:=w'.cell? ⟨g,i,none⟩=some v∧w'.cell? ⟨g,j,none⟩=some u∧Mod [] w w'
theorem GS.up{w w1 w2:World}{g i j:Nat}{v u:Value}(h:GS w g i j v u w1)(m:Mod [] w1 w2):GS w g i j v u w2:=⟨cell_up h.1 m,cell_up h.2.1 m,h.2.2.then m⟩
theorem GS.set{w w1:World}{g i j K n:Nat}{v u x:Value}(h:GS w g i j v u w1)(hne:g≠K)(hK:w.heap.size≤K):GS w g i j v u (w1.setCell ⟨K,n,none⟩ x):=by
 have e:(w1.setCell ⟨K,n,none⟩ x).heap[g]? = w1.heap[g]?:=Below.heap_setCell _ _ _ _ hne
 exact⟨(World.cell?_of_block e).trans h.1,(World.cell?_of_block e).trans h.2.1,h.2.2.setCell _ _ (fun h=>by simp at h;omega)⟩
set_option maxRecDepth 100000 in
theorem c_Private(i j e:Nat)(w:World)(hi:i<10)(hj:j<10)(he:e%2=1)(hb:e≤2147483647) :
 Calls Tryz.prog 14 #[i64 i,i64 j,i64 e] w fun r w'=>Mod [] w w'∧∃vN vD vP vQ E N D P Q ok,r=.returned (.tuple #[.agg #[vN,vD,vP,vQ,.int .i64 E],.bool ok])∧KeyV w' vN vD vP vQ E N D P Q∧(ok=true→KeyOk i j e E N D P Q):=by
 have hK:=Blk.new w 27 [.slice none 0 0,.slice none 0 0,.slice none 0 0,.slice none 0 0,.int .i64 0]
 have m0:Mod [] w (w.alloc (.cells #[.slice none 0 0,.slice none 0 0,.slice none 0 0,.slice none 0 0,.int .i64 0] 27)):=(Mod.refl [] w).alloc _
 have em:(e:Int).tmod 2=1:=by rw[Int.tmod_eq_emod_of_nonneg (by omega)];omega
 have emm:(e:Int)%2=1:=by omega
 have HE:=hide he
 have HB:=hide hb
 have gi:(i:Int)<10:=by omega
 have gj:(j:Int)<10:=by omega
 have ge:(e:Int)<2147483648:=by omega
 clear he
 rcases (by omega:i=j∨(i≠j∧e<3)∨(i≠j∧3≤e))with rfl|⟨hij,hlt⟩|⟨hij,hge⟩
 ·go_enter Tryz.func14,Tryz.ntmps14
  go_wp2_with fail
  refine(c_Primes _).mono ?_
  rintro r w1 ⟨g,vs,rfl,m1,hg,hvs,hpr⟩
  have hK1:=blk_up hK m1
  have m01:=m0.then m1
  have f0:=hK1.frozen 0
  have f1:=hK1.frozen 1
  have f2:=hK1.frozen 2
  have f3:=hK1.frozen 3
  have f4:=hK1.frozen 4
  have c0:w1.cell? ⟨w.heap.size,0,none⟩=some (.slice none 0 0):=by rw[hK1.cell];rfl
  have c1:w1.cell? ⟨w.heap.size,1,none⟩=some (.slice none 0 0):=by rw[hK1.cell];rfl
  have c2:w1.cell? ⟨w.heap.size,2,none⟩=some (.slice none 0 0):=by rw[hK1.cell];rfl
  have c3:w1.cell? ⟨w.heap.size,3,none⟩=some (.slice none 0 0):=by rw[hK1.cell];rfl
  have c4:w1.cell? ⟨w.heap.size,4,none⟩=some (.int .i64 0):=by rw[hK1.cell];rfl
  clear hpr hg m0 m1 hK
  go_wp2_with fail
  have hB2:=((((hK1.setCell 0 (.slice none 0 0)).setCell 1 (.slice none 0 0)).setCell 2 (.slice none 0 0)).setCell 3 (.slice none 0 0)).setCell 4 (.int .i64 0)
  have mS:Mod [] w (((((w1.setCell ⟨w.heap.size,0,none⟩ (.slice none 0 0)).setCell ⟨w.heap.size,1,none⟩ (.slice none 0 0)).setCell ⟨w.heap.size,2,none⟩ (.slice none 0 0)).setCell ⟨w.heap.size,3,none⟩ (.slice none 0 0)).setCell ⟨w.heap.size,4,none⟩ (.int .i64 0)):=
   ((((m01.setCell _ _ (fun h=>absurd h (Nat.lt_irrefl _))).setCell _ _ (fun h=>absurd h (Nat.lt_irrefl _))).setCell _ _ (fun h=>absurd h (Nat.lt_irrefl _))).setCell _ _ (fun h=>absurd h (Nat.lt_irrefl _))).setCell _ _ (fun h=>absurd h (Nat.lt_irrefl _))
  refine bodyPost_ret (results_key rfl rfl rfl (by rw[hB2.cell];rfl) (by rw[hB2.cell];rfl) (by rw[hB2.cell];rfl) (by rw[hB2.cell];rfl) (by rw[hB2.cell];rfl)) rfl ?_
  exact⟨mS,_,_,_,_,0,0,0,0,0,false,rfl,⟨natV_nil _,natV_nil _,natV_nil _,natV_nil _,by decide,by decide,by decide,by decide⟩,fun h=>by simp at h⟩
 ·have gij:((i:Int) == (j:Int))=false:=by rw[beq_eq_false_iff_ne];omega
  have ge3:(e:Int)<3:=by omega
  go_enter Tryz.func14,Tryz.ntmps14
  go_wp2_with fail
  refine(c_Primes _).mono ?_
  rintro r w1 ⟨g,vs,rfl,m1,hg,hvs,hpr⟩
  have hK1:=blk_up hK m1
  have m01:=m0.then m1
  have f0:=hK1.frozen 0
  have f1:=hK1.frozen 1
  have f2:=hK1.frozen 2
  have f3:=hK1.frozen 3
  have f4:=hK1.frozen 4
  have c0:w1.cell? ⟨w.heap.size,0,none⟩=some (.slice none 0 0):=by rw[hK1.cell];rfl
  have c1:w1.cell? ⟨w.heap.size,1,none⟩=some (.slice none 0 0):=by rw[hK1.cell];rfl
  have c2:w1.cell? ⟨w.heap.size,2,none⟩=some (.slice none 0 0):=by rw[hK1.cell];rfl
  have c3:w1.cell? ⟨w.heap.size,3,none⟩=some (.slice none 0 0):=by rw[hK1.cell];rfl
  have c4:w1.cell? ⟨w.heap.size,4,none⟩=some (.int .i64 0):=by rw[hK1.cell];rfl
  clear hpr hg m0 m1 hK
  go_wp2_with fail
  have hB2:=((((hK1.setCell 0 (.slice none 0 0)).setCell 1 (.slice none 0 0)).setCell 2 (.slice none 0 0)).setCell 3 (.slice none 0 0)).setCell 4 (.int .i64 0)
  have mS:Mod [] w (((((w1.setCell ⟨w.heap.size,0,none⟩ (.slice none 0 0)).setCell ⟨w.heap.size,1,none⟩ (.slice none 0 0)).setCell ⟨w.heap.size,2,none⟩ (.slice none 0 0)).setCell ⟨w.heap.size,3,none⟩ (.slice none 0 0)).setCell ⟨w.heap.size,4,none⟩ (.int .i64 0)):=
   ((((m01.setCell _ _ (fun h=>absurd h (Nat.lt_irrefl _))).setCell _ _ (fun h=>absurd h (Nat.lt_irrefl _))).setCell _ _ (fun h=>absurd h (Nat.lt_irrefl _))).setCell _ _ (fun h=>absurd h (Nat.lt_irrefl _))).setCell _ _ (fun h=>absurd h (Nat.lt_irrefl _))
  refine bodyPost_ret (results_key rfl rfl rfl (by rw[hB2.cell];rfl) (by rw[hB2.cell];rfl) (by rw[hB2.cell];rfl) (by rw[hB2.cell];rfl) (by rw[hB2.cell];rfl)) rfl ?_
  exact⟨mS,_,_,_,_,0,0,0,0,0,false,rfl,⟨natV_nil _,natV_nil _,natV_nil _,natV_nil _,by decide,by decide,by decide,by decide⟩,fun h=>by simp at h⟩
 ·have gij:((i:Int) == (j:Int))=false:=by rw[beq_eq_false_iff_ne];omega
  have ge3:decide ((e:Int)<3)=false:=decide_eq_false (by omega)
  have geb:decide ((2147483648:Int)≤(e:Int))=false:=decide_eq_false (by omega)
  obtain⟨t1,t2,t3,t4,t5,t6⟩:=pair_facts hi hj hij
  obtain⟨p1,p2,p3⟩:=prs_ok _ (nth_prs hi)
  obtain⟨q1,q2,q3⟩:=prs_ok _ (nth_prs hj)
  have pl:=prs_lim (nth_prs hi)
  have ql:=prs_lim (nth_prs hj)
  have pb:blen (nth prs i)≤607:=blen_le p2
  have qb:blen (nth prs j)≤607:=blen_le q2
  have p0:1≤nth prs i:=Nat.le_trans Nat.one_le_two_pow (Nat.le_of_lt p1)
  have q0:1≤nth prs j:=Nat.le_trans Nat.one_le_two_pow (Nat.le_of_lt q1)
  obtain⟨p,hp⟩:∃p,p=nth prs i:=⟨_,rfl⟩
  obtain⟨q,hq⟩:∃q,q=nth prs j:=⟨_,rfl⟩
  obtain⟨l,hl⟩:∃l,l=leastV p q:=⟨_,rfl⟩
  rw[←hp]at p0 pl pb t1 t2 t3 t4 t5 t6
  rw[←hq]at q0 ql qb t1 t2 t3 t4 t5 t6
  rw[←hl]at t1 t2 t6
  have HP:=hide hp
  have HQ:=hide hq
  have HL:=hide hl
  have HIJ:=hide hij
  have HGE:=hide hge
  have T1:=hide t1
  have T2:=hide t2
  have T3:=hide t3
  have T6:=hide t6
  have PB:=hide pb
  have QB:=hide qb
  have C1:=hide (fun w' v u (h:NatV w' v p) (h':NatV w' u 1)=>n_Sub v u p 1 w' h h' pl p0)
  have C2:=hide (fun w' v u (h:NatV w' v q) (h':NatV w' u 1)=>n_Sub v u q 1 w' h h' ql q0)
  have C3:=hide (fun w' v u (h:NatV w' v (p-1)) (h':NatV w' u (q-1))=>n_Mul v u (p-1) (q-1) w' h h' (by omega) (by omega))
  have C4:=hide (fun w' v u (h:NatV w' v (p-1)) (h':NatV w' u (q-1))=>n_Gcd v u (p-1) (q-1) w' h h' (by omega) (by omega))
  have C5:=hide (fun w' v u (h:NatV w' v ((p-1)*(q-1))) (h':NatV w' u (Nat.gcd (p-1) (q-1)))=>n_DivMod v u _ _ w' h h' t5 t4)
  have C6:=hide (fun w'=>n_Small e (by omega) w')
  have C7:=hide (fun w' v u (h:IntIs w' v (e:Int)) (h':NatV w' u l)=>c_Inverse v u e l w' h h' (by omega) (by omega) t2)
  have C8:=hide (fun w' v u (h:NatV w' v p) (h':NatV w' u q)=>n_Mul v u p q w' h h' pl ql)
  clear ge hb p1 p2 p3 q1 q2 q3 hp hq hl hij hge t1 t2 t3 t4 t5 t6 pl ql pb qb p0 q0
  go_enter Tryz.func14,Tryz.ntmps14
  go_wp2_with fail
  refine(c_Primes _).mono ?_
  rintro r w1 ⟨g,vs,rfl,m1,hg,hvs,hpr⟩
  have hK1:=blk_up hK m1
  have m01:=m0.then m1
  obtain⟨vP,hvP,nP⟩:=hpr i hi
  obtain⟨vQ,hvQ,nQ⟩:=hpr j hj
  rw[←HP.out]at nP
  rw[←HQ.out]at nQ
  have hgK:g≠w.heap.size:=hg.ne hK1 (by decide)
  have s1:w1.cell? ⟨g,i,none⟩=some vP:=by rw[hg.cell,hvP]
  have s2:w1.cell? ⟨g,j,none⟩=some vQ:=by rw[hg.cell,hvQ]
  obtain⟨aP,kP,cP,rfl⟩:=nP.lit
  obtain⟨aQ,kQ,cQ,rfl⟩:=nQ.lit
  clear hpr hg m0 m1 hK hvP hvQ hvs
  go_wp2_with fail
  have hS0:Hid (GS w g i j (.slice aP kP cP) (.slice aQ kQ cQ) w1):=hide ⟨s1,s2,m01⟩
  clear s1 s2
  go_region_held3 (fun w'=>w'.cell? ⟨g,i,none⟩=some (.slice aP kP cP)∧w'.cell? ⟨g,j,none⟩=some (.slice aQ kQ cQ)∧Mod [] w w')
   ((show GS w g i j (.slice aP kP cP) (.slice aQ kQ cQ) _;(repeat (first|with_reducible exact hS4.out|with_reducible exact hS3.out|with_reducible exact hS2.out|with_reducible exact hS1.out|with_reducible exact hS0.out|((with_reducible refine GS.set ?_ ?_ ?_);rotate_left;(focus omega);(focus omega))|with_reducible refine GS.up ?_ ((Mod.refl [] _).drew)));done))
   (first|(have hU:=hU3;go_at_call_of 29 (Value.slice aQ kQ cQ);refine(C2.out _ _ _ ((((nQ.mod m2).mod m3).mod m4)) hU3).mono ?_;rintro r w5 ⟨vB,rfl,m5,hB⟩;have hS4:=hide (hS3.out.up m5))|(go_at_call_of 29 (Value.slice aP kP cP);refine(C1.out _ _ _ (nP.mod m2) hU1).mono ?_;rintro r w3 ⟨vA,rfl,m3,hA⟩;have hS2:=hide (hS1.out.up m3))|(have hx:=hA;go_at_call 31;refine(n_Small 1 (by decide) _).mono ?_;rintro r w4 ⟨u3,rfl,m4,hU3⟩;have hS3:=hide (hS2.out.up m4))|(go_at_call 31;refine(n_Small 1 (by decide) _).mono ?_;rintro r w2 ⟨u1,rfl,m2',hU1⟩;have m2:Mod [] w1 w2:=m2'.ofDrew;clear m2';have hS1:=hide (hS0.out.up m2)))
  have hS:=hS4
  have nP5:=(((nP.mod m2).mod m3).mod m4).mod m5
  have nQ5:=(((nQ.mod m2).mod m3).mod m4).mod m5
  have hA5:=(hA.mod m4).mod m5
  have hK5:=blk_up (blk_up (blk_up (blk_up hK1 m2) m3) m4) m5
  clear hS0 hS1 hS2 hS3 hS4 nP nQ hA hU1 hU3 hK1 m2 m3 m4 m5 m01
  go_wp2_with fail
  refine(C3.out _ _ _ hA5 hB).mono ?_
  rintro r w6 ⟨vM,rfl,m6,hM⟩
  go_wp2_with fail
  refine(C4.out _ _ _ (hA5.mod m6) (hB.mod m6)).mono ?_
  rintro r w7 ⟨vG,rfl,m7,hG⟩
  go_wp2_with fail
  refine(C5.out _ _ _ (hM.mod m7) hG).mono ?_
  rintro r w8 ⟨vl,vr,rfl,m8,hl8,-⟩
  rw[show(p-1)*(q-1)/Nat.gcd (p-1) (q-1)=l from HL.out.symm]at hl8
  go_wp2_with fail
  refine(C6.out _).mono ?_
  rintro r w9 ⟨ve,rfl,m9,he9⟩
  go_wp2_with fail
  refine(n_Make ve e _ he9).mono ?_
  rintro r w10 ⟨vi,rfl,m10,hi10⟩
  go_wp2_with fail
  refine(C7.out _ _ _ hi10 ((hl8.mod m9).mod m10)).mono ?_
  rintro r w11 ⟨vd,d,rfl,m11,hd11,hdl,hinv⟩
  have m511:=((((m6.then m7).then m8).then m9).then m10).then m11
  have nP11:=nP5.mod m511
  have nQ11:=nQ5.mod m511
  have hK11:=blk_up hK5 m511
  have hS11:=hide (hS.out.up m511)
  obtain⟨aD,kD,cD,rfl⟩:=hd11.lit
  have HD:=hide hdl
  have HI:=hide hinv
  obtain⟨ok,hok⟩:∃b,b=decide (Nat.gcd e l=1):=⟨_,rfl⟩
  rw[←hok]
  have HOK:=hide hok
  clear hS hA5 hB hM hG hl8 he9 hi10 m6 m7 m8 m9 m10 m11 m511 nP5 nQ5 hK5 hdl hinv hok
  go_wp2_with fail
  go_region_held3 (fun w'=>w'.cell? ⟨g,i,none⟩=some (.slice aP kP cP)∧w'.cell? ⟨g,j,none⟩=some (.slice aQ kQ cQ)∧Mod [] w w')
   ((show GS w g i j (.slice aP kP cP) (.slice aQ kQ cQ) _;(repeat (first|with_reducible exact hS12.out|with_reducible exact hS11.out|((with_reducible refine GS.set ?_ ?_ ?_);rotate_left;(focus omega);(focus omega))|with_reducible refine GS.up ?_ ((Mod.refl [] _).drew)));done))
   ((go_at_call 35;refine(C8.out _ _ _ (nP11.mod ((Mod.refl [] _).drew)) (nQ11.mod ((Mod.refl [] _).drew))).mono ?_;rintro r w12 ⟨vN,rfl,m12',hN⟩;have m12:Mod [] w11 w12:=m12'.ofDrew;clear m12';obtain⟨aN,kN,cN,rfl⟩:=hN.lit;have hS12:=hide (hS11.out.up m12);have hK12:=blk_up hK11 m12;have f0:=hK12.frozen 0;have f1:=hK12.frozen 1;have f2:=hK12.frozen 2;have f3:=hK12.frozen 3;have f4:=hK12.frozen 4;have c0:w12.cell? ⟨w.heap.size,0,none⟩=some (.slice none 0 0):=(by rw[hK12.cell];rfl);have c1:w12.cell? ⟨w.heap.size,1,none⟩=some (.slice none 0 0):=(by rw[hK12.cell];rfl);have c2:w12.cell? ⟨w.heap.size,2,none⟩=some (.slice none 0 0):=(by rw[hK12.cell];rfl);have c3:w12.cell? ⟨w.heap.size,3,none⟩=some (.slice none 0 0):=(by rw[hK12.cell];rfl);have c4:w12.cell? ⟨w.heap.size,4,none⟩=some (.int .i64 0):=(by rw[hK12.cell];rfl)))
  go_wp2_with fail
  have hB2:=(((((hK12.setCell 0 (.slice aN kN cN)).setCell 1 (.slice aD kD cD)).setCell 2 (.slice aP kP cP)).setCell 3 (.slice aQ kQ cQ)).setCell 4 (.int .i64 e))
  have mS:Mod [] w (((((w12.setCell ⟨w.heap.size,0,none⟩ (.slice aN kN cN)).setCell ⟨w.heap.size,1,none⟩ (.slice aD kD cD)).setCell ⟨w.heap.size,2,none⟩ (.slice aP kP cP)).setCell ⟨w.heap.size,3,none⟩ (.slice aQ kQ cQ)).setCell ⟨w.heap.size,4,none⟩ (.int .i64 e)):=(((((hS12.out.2.2.setCell _ _ (fun h=>absurd h (Nat.lt_irrefl _))).setCell _ _ (fun h=>absurd h (Nat.lt_irrefl _))).setCell _ _ (fun h=>absurd h (Nat.lt_irrefl _))).setCell _ _ (fun h=>absurd h (Nat.lt_irrefl _))).setCell _ _ (fun h=>absurd h (Nat.lt_irrefl _)))
  have mX:Mod [w.heap.size] w12 (((((w12.setCell ⟨w.heap.size,0,none⟩ (.slice aN kN cN)).setCell ⟨w.heap.size,1,none⟩ (.slice aD kD cD)).setCell ⟨w.heap.size,2,none⟩ (.slice aP kP cP)).setCell ⟨w.heap.size,3,none⟩ (.slice aQ kQ cQ)).setCell ⟨w.heap.size,4,none⟩ (.int .i64 e)):=(((((Mod.refl [w.heap.size] w12).setCell _ _ (by simp)).setCell _ _ (by simp)).setCell _ _ (by simp)).setCell _ _ (by simp)).setCell _ _ (by simp)
  have HN:=natV_key hN hK12 mX
  have HD12:=natV_key (hd11.mod m12) hK12 mX
  have HP12:=natV_key (nP11.mod m12) hK12 mX
  have HQ12:=natV_key (nQ11.mod m12) hK12 mX
  first
   |(refine bodyPost_ret (results_key rfl rfl rfl (by rw[hB2.cell];rfl) (by rw[hB2.cell];rfl) (by rw[hB2.cell];rfl) (by rw[hB2.cell];rfl) (by rw[hB2.cell];rfl)) rfl ?_
     exact⟨mS,_,_,_,_,e,_,_,_,_,ok,rfl,⟨HN,HD12,HP12,HQ12,T3.out,T6.out _ HD.out,Nat.le_trans PB.out (by omega),Nat.le_trans QB.out (by omega)⟩,fun h=>⟨HIJ.out,HGE.out,rfl,by rw[HP.out,HQ.out],HP.out,HQ.out,by rw[←HP.out,←HQ.out,←HL.out];exact HD.out,by rw[←HP.out,←HQ.out,←HL.out,HI.out (of_decide_eq_true (HOK.out▸h))];exact Nat.mod_eq_of_lt (Nat.lt_of_lt_of_le (by omega) T1.out)⟩⟩)
end Go.Proofs.YtfgmnbmnpihjdaaGreatDoor
namespace Go.Proofs.YtfgmnbmnpihjdaaGreatDoor
set_option exponentiation.threshold 7000000
open Go.RowKit
theorem or_one_u32{n:Nat}(h:n<2147483648):∃e:Nat,bits .or .u32 (n:Int) 1=(e:Int)∧e%2=1∧e≤2147483647:=by
 have h1:(BitVec.ofInt 32 (n:Int)).toNat=n:=by
  rw[BitVec.ofInt_natCast,BitVec.toNat_ofNat];exact Nat.mod_eq_of_lt (by omega)
 have h2:(BitVec.ofInt 32 (1:Int)).toNat=1:=by decide
 have h3:(n ||| 1)<2^31:=Nat.or_lt_two_pow (by omega) (by omega)
 refine⟨n ||| 1,?_,?_,by omega⟩
 ·show IntKind.u32.wrap ((BitVec.ofInt 32 (n:Int) ||| BitVec.ofInt 32 (1:Int)).toNat:Int)=_
  rw[BitVec.toNat_or,h1,h2,IntKind.wrap_u32]
  generalize n ||| 1=x at *
  omega
 ·exact Nat.or_mod_two_eq_one.2 (Or.inr rfl)
theorem natV_gen{w w':World}{v:Value}{n K T:Nat}{vs:List Value}(h:NatV w v n)(hK:Blk w K T vs)(hv:∀i x:Nat,vs[i]? = some (i64 x)→x=0)(m:Mod [K] w w'):NatV w' v n:=by
 obtain⟨L,h1,h2,h3⟩:=h
 refine⟨L,?_,h2,h3⟩
 rcases h1 with⟨rfl,rfl⟩|⟨b,o,c,rfl,hc,hb⟩
 ·exact .inl ⟨rfl,rfl⟩
 ·refine .inr ⟨b,o,c,rfl,hc,fun i hi=>?_⟩
  have hne:b≠K:=by
   rintro rfl
   have h4:=hb (L.length-1) (by omega)
   rw[hK.cell]at h4
   exact h2.top (by omega) (hv _ _ h4)
  rw[←hb i hi]
  exact World.cell?_of_block (m.block b (block_lt_of_cell (hb i hi)) (by simpa using hne))
theorem byV_gen{w w':World}{v:Value}{B:List Nat}{K T:Nat}{vs:List Value}(h:ByV w v B)(hK:Blk w K T vs)(hv:∀i x:Nat,vs[i]?≠some (u8 x))(m:Mod [K] w w'):ByV w' v B:=by
 refine⟨?_,h.2.1,fun b o n c e=>Nat.lt_of_lt_of_le (h.2.2 b o n c e) m.size⟩
 rcases h.1 with h1|h1|⟨b,o,c,rfl,hc,hb⟩
 ·exact .inl h1
 ·exact .inr (.inl h1)
 ·refine .inr (.inr ⟨b,o,c,rfl,hc,fun i hi=>?_⟩)
  have hne:b≠K:=by
   rintro rfl
   have h4:=hb i hi
   rw[hK.cell]at h4
   exact hv _ _ h4
  rw[←hb i hi]
  exact World.cell?_of_block (m.block b (block_lt_of_cell (hb i hi)) (by simpa using hne))
theorem KeyS.set{w w1:World}{k K n:Nat}{v0 v1 v2 v3 v4 x:Value}(h:KeyS w k v0 v1 v2 v3 v4 w1)(hne:k≠K)(hK:w.heap.size≤K):KeyS w k v0 v1 v2 v3 v4 (w1.setCell ⟨K,n,none⟩ x):=by
 have e:(w1.setCell ⟨K,n,none⟩ x).heap[k]? = w1.heap[k]?:=Below.heap_setCell _ _ _ _ hne
 obtain⟨h0,h1,h2,h3,h4,m⟩:=h
 exact⟨(World.cell?_of_block e).trans h0,(World.cell?_of_block e).trans h1,(World.cell?_of_block e).trans h2,(World.cell?_of_block e).trans h3,(World.cell?_of_block e).trans h4,m.setCell _ _ (fun h=>by simp at h;omega)⟩
theorem results_kof{fn:Func}{t u x p q:Nat}{tmps:Array Value}{v0 v1 v2 v3 v4 u0 u1 u2 u3 u4:Value}{w:World}(h:fn.results=#[.cell t 27,.cell u 29,.tmp x])(hp:tmps.getD t undef=.pointer (some ⟨p,0,none⟩))(hq:tmps.getD u undef=.pointer (some ⟨q,0,none⟩))
 (h0:w.cell? ⟨p,0,none⟩=some v0) (h1:w.cell? ⟨p,1,none⟩=some v1) (h2:w.cell? ⟨p,2,none⟩=some v2) (h3:w.cell? ⟨p,3,none⟩=some v3) (h4:w.cell? ⟨p,4,none⟩=some v4)
 (g0:w.cell? ⟨q,0,none⟩=some u0) (g1:w.cell? ⟨q,1,none⟩=some u1) (g2:w.cell? ⟨q,2,none⟩=some u2) (g3:w.cell? ⟨q,3,none⟩=some u3) (g4:w.cell? ⟨q,4,none⟩=some u4) :
 (results fn tmps).run Tryz.prog w=.ok (.tuple #[.agg #[v0,v1,v2,v3,v4],.agg #[u0,u1,u2,u3,u4],tmps.getD x undef]) w:=by
 have hl:(loadVar 27 ⟨p,0,none⟩).run Tryz.prog w=.ok (.agg #[v0,v1,v2,v3,v4]) w:=by go_simp
 have hl2:(loadVar 29 ⟨q,0,none⟩).run Tryz.prog w=.ok (.agg #[u0,u1,u2,u3,u4]) w:=by go_simp
 have hp2:tmps[t]?.getD undef=.pointer (some ⟨p,0,none⟩):=by simpa using hp
 have hq2:tmps[u]?.getD undef=.pointer (some ⟨q,0,none⟩):=by simpa using hq
 simp[results,h,hp2,hq2,asAddr,hl,hl2]
set_option maxRecDepth 100000 in
theorem c_keyOf(pb qb eb:Nat)(w:World)(hp:pb<256)(hq:qb<256)(he:eb<4294967296) :
 Calls Tryz.prog 4 #[.int .u8 pb,.int .u8 qb,.int .u32 eb] w fun r w'=>Mod [] w w'∧∃e vN vD vP vQ E N D P Q ok uN uD uP uQ BN BD BP BQ,e≤2147483647∧e%2=1∧r=.returned (.tuple #[.agg #[vN,vD,vP,vQ,.int .i64 E],.agg #[uN,.int .i64 E,uD,uP,uQ],.bool ok])∧KeyV w' vN vD vP vQ E N D P Q∧(ok=true→KeyOk (pb%10) (qb%10) e E N D P Q) ∧
  (ByV w' uN BN∧BN.length=(blen N+7)/8∧bval BN=N)∧(ByV w' uD BD∧BD.length=(blen D+7)/8∧bval BD=D)∧(ByV w' uP BP∧BP.length=(blen P+7)/8∧bval BP=P)∧(ByV w' uQ BQ∧BQ.length=(blen Q+7)/8∧bval BQ=Q):=by
 obtain⟨i,hi⟩:∃i,i=pb%10:=⟨_,rfl⟩
 obtain⟨j,hj⟩:∃j,j=qb%10:=⟨_,rfl⟩
 obtain⟨m,hm⟩:∃m,m=eb%2147483648:=⟨_,rfl⟩
 obtain⟨e,h1,h2,h3⟩:=or_one_u32 (n:=m) (by omega)
 have ei:(pb:Int).tmod 10=(i:Int):=by rw[Int.tmod_eq_emod_of_nonneg (by omega),hi];rfl
 have ej:(qb:Int).tmod 10=(j:Int):=by rw[Int.tmod_eq_emod_of_nonneg (by omega),hj];rfl
 have emm:(eb:Int).tmod 2147483648=(m:Int):=by rw[Int.tmod_eq_emod_of_nonneg (by omega),hm];rfl
 have di:(pb:Int)%10=(i:Int):=by rw[hi];rfl
 have dj:(qb:Int)%10=(j:Int):=by rw[hj];rfl
 have dm:(eb:Int)%2147483648=(m:Int):=by rw[hm];rfl
 have we:IntKind.i64.wrap (e:Int)=(e:Int):=IntWalk.i64_in _ (by omega)
 have wp:IntKind.i64.wrap (pb:Int)=(pb:Int):=IntWalk.i64_in _ (by omega)
 have wq:IntKind.i64.wrap (qb:Int)=(qb:Int):=IntWalk.i64_in _ (by omega)
 have i10:i<10:=by omega
 have j10:j<10:=by omega
 have C1:=hide (fun w'=>c_Private i j e w' i10 j10 h2 h3)
 have H2:=hide h2
 have H3:=hide h3
 rw[←hi,←hj]
 have m0:Mod [] w ((w.alloc (.cells #[.slice none 0 0,.slice none 0 0,.slice none 0 0,.slice none 0 0,.int .i64 0] 27)).alloc (.cells #[.slice none 0 0,.int .i64 0,.slice none 0 0,.slice none 0 0,.slice none 0 0] 29)):=((Mod.refl [] w).alloc _).alloc _
 have hK1:=(Blk.new w 27 [.slice none 0 0,.slice none 0 0,.slice none 0 0,.slice none 0 0,.int .i64 0]).alloc (.cells #[.slice none 0 0,.int .i64 0,.slice none 0 0,.slice none 0 0,.slice none 0 0] 29)
 have hK2:=Blk.new (w.alloc (.cells #[.slice none 0 0,.slice none 0 0,.slice none 0 0,.slice none 0 0,.int .i64 0] 27)) 29 [.slice none 0 0,.int .i64 0,.slice none 0 0,.slice none 0 0,.slice none 0 0]
 rw[World.size_alloc]at hK2
 clear hi hj hm hp hq he h2 h3 i10 j10
 go_enter Tryz.func4,Tryz.ntmps4
 go_wp2_with fail
 refine(c_Primes _).mono ?_
 rintro r w1 ⟨g,vs,rfl,m1,hg,-,-⟩
 have m01:=m0.then m1
 replace hK1:=blk_up hK1 m1
 replace hK2:=blk_up hK2 m1
 clear hg m0 m1
 go_upto_region 2 with fail
 go_cut [10,11]from 15 to 29 (fun a10 a11 wx=>∃K aN kN cN aD kD cD aP kP cP aQ kQ cQ E N D P Q ok,a10=ptr K∧a11=.bool ok∧Mod [] w wx∧Blk wx K 27 [.slice aN kN cN,.slice aD kD cD,.slice aP kP cP,.slice aQ kQ cQ,.int .i64 E]∧K≠w.heap.size∧Blk wx w.heap.size 27 [.slice none 0 0,.slice none 0 0,.slice none 0 0,.slice none 0 0,.int .i64 0]∧Blk wx (w.heap.size+1) 29 [.slice none 0 0,.int .i64 0,.slice none 0 0,.slice none 0 0,.slice none 0 0]∧KeyV wx (.slice aN kN cN) (.slice aD kD cD) (.slice aP kP cP) (.slice aQ kQ cQ) E N D P Q∧(ok=true→KeyOk i j e E N D P Q))
 case first=>
  go_region_with ((go_at_call 14;refine(C1.out _).mono ?_;rintro r w2 ⟨m2,vN,vD,vP,vQ,E,N,D,P,Q,ok,rfl,hV,hok⟩;have m12:Mod [] w1 w2:=(by first|exact m2.ofDrew|exact(((Mod.refl [] w1).alloc _).drew).then m2|exact(((Mod.refl [] w1).drew).alloc _).then m2);have p1:=True.intro;(first|(have p1:=Blk.mod (Blk.new w1 27 [.slice none 0 0,.slice none 0 0,.slice none 0 0,.slice none 0 0,.int .i64 0]) (Mod.ofDrew m2) (by simp))|(have p1:=Blk.mod (Blk.new w1 27 [.slice none 0 0,.slice none 0 0,.slice none 0 0,.slice none 0 0,.int .i64 0]) m2 (by simp))|skip);(first|(have p10:=p1.cell 0;have p11:=p1.cell 1;have p12:=p1.cell 2;have p13:=p1.cell 3;have p14:=p1.cell 4;have q10:=p1.frozen 0;have q11:=p1.frozen 1;have q12:=p1.frozen 2;have q13:=p1.frozen 3;have q14:=p1.frozen 4;simp only[List.getElem?_cons_zero,List.getElem?_cons_succ]at p10 p11 p12 p13 p14)|skip);obtain⟨aN,kN,cN,rfl⟩:=hV.n.lit;obtain⟨aD,kD,cD,rfl⟩:=hV.d.lit;obtain⟨aP,kP,cP,rfl⟩:=hV.p.lit;obtain⟨aQ,kQ,cQ,rfl⟩:=hV.q.lit;have HV:=hide hV;have HOK:=hide hok;clear hV hok))
  all_goals go_wp2_with fail
  all_goals go_meet
  all_goals have l1:=hK1.lt
  all_goals have l2:=hK2.lt
  all_goals have l3:=m12.size
  all_goals have k1:=blk_up hK1 m12
  all_goals have k2:=blk_up hK2 m12
  all_goals first
   |(have mS:Mod [] w (w2.alloc (.cells #[.slice aN kN cN,.slice aD kD cD,.slice aP kP cP,.slice aQ kQ cQ,.int .i64 E] 27)):=(m01.then m12).alloc _
     exact⟨w2.heap.size,aN,kN,cN,aD,kD,cD,aP,kP,cP,aQ,kQ,cQ,E,N,D,P,Q,ok,rfl,rfl,mS,Blk.new w2 _ [.slice aN kN cN,.slice aD kD cD,.slice aP kP cP,.slice aQ kQ cQ,.int .i64 E],by omega,k1.alloc _,k2.alloc _,HV.out.mod ((Mod.refl [] w2).alloc _),HOK.out⟩)
   |(have mS:Mod [] w (((((w2.setCell ⟨w1.heap.size,0,none⟩ (.slice aN kN cN)).setCell ⟨w1.heap.size,1,none⟩ (.slice aD kD cD)).setCell ⟨w1.heap.size,2,none⟩ (.slice aP kP cP)).setCell ⟨w1.heap.size,3,none⟩ (.slice aQ kQ cQ)).setCell ⟨w1.heap.size,4,none⟩ (.int .i64 E)):=(Mod.setCell (Mod.setCell (Mod.setCell (Mod.setCell (Mod.setCell (m01.then m12) _ _ (fun h=>absurd h (by simp;omega))) _ _ (fun h=>absurd h (by simp;omega))) _ _ (fun h=>absurd h (by simp;omega))) _ _ (fun h=>absurd h (by simp;omega))) _ _ (fun h=>absurd h (by simp;omega)))
     have mX:Mod [w1.heap.size] w2 (((((w2.setCell ⟨w1.heap.size,0,none⟩ (.slice aN kN cN)).setCell ⟨w1.heap.size,1,none⟩ (.slice aD kD cD)).setCell ⟨w1.heap.size,2,none⟩ (.slice aP kP cP)).setCell ⟨w1.heap.size,3,none⟩ (.slice aQ kQ cQ)).setCell ⟨w1.heap.size,4,none⟩ (.int .i64 E)):=(Mod.setCell (Mod.setCell (Mod.setCell (Mod.setCell (Mod.setCell (Mod.refl [w1.heap.size] w2) _ _ (by simp)) _ _ (by simp)) _ _ (by simp)) _ _ (by simp)) _ _ (by simp))
     exact⟨w1.heap.size,aN,kN,cN,aD,kD,cD,aP,kP,cP,aQ,kQ,cQ,E,N,D,P,Q,ok,rfl,rfl,mS,(Blk.setCell (Blk.setCell (Blk.setCell (Blk.setCell (Blk.setCell p1 0 (.slice aN kN cN)) 1 (.slice aD kD cD)) 2 (.slice aP kP cP)) 3 (.slice aQ kQ cQ)) 4 (.int .i64 E)),by omega,(Blk.setCell_other (Blk.setCell_other (Blk.setCell_other (Blk.setCell_other (Blk.setCell_other k1 ⟨w1.heap.size,0,none⟩ (.slice aN kN cN) (by simp;omega)) ⟨w1.heap.size,1,none⟩ (.slice aD kD cD) (by simp;omega)) ⟨w1.heap.size,2,none⟩ (.slice aP kP cP) (by simp;omega)) ⟨w1.heap.size,3,none⟩ (.slice aQ kQ cQ) (by simp;omega)) ⟨w1.heap.size,4,none⟩ (.int .i64 E) (by simp;omega)),(Blk.setCell_other (Blk.setCell_other (Blk.setCell_other (Blk.setCell_other (Blk.setCell_other k2 ⟨w1.heap.size,0,none⟩ (.slice aN kN cN) (by simp;omega)) ⟨w1.heap.size,1,none⟩ (.slice aD kD cD) (by simp;omega)) ⟨w1.heap.size,2,none⟩ (.slice aP kP cP) (by simp;omega)) ⟨w1.heap.size,3,none⟩ (.slice aQ kQ cQ) (by simp;omega)) ⟨w1.heap.size,4,none⟩ (.int .i64 E) (by simp;omega)),⟨natV_key HV.out.n p1 mX,natV_key HV.out.d p1 mX,natV_key HV.out.p p1 mX,natV_key HV.out.q p1 mX,HV.out.bN,HV.out.bD,HV.out.bP,HV.out.bQ⟩,HOK.out⟩)
 case rest=>
  obtain⟨K,aN,kN,cN,aD,kD,cD,aP,kP,cP,aQ,kQ,cQ,E,N,D,P,Q,ok,rfl,rfl,mc,hB,hne,hK1c,hK2c,hV,hok⟩:=hcut
  obtain⟨W,rfl⟩:∃W:World,W=wc:=⟨_,rfl⟩
  have c0:W.cell? ⟨K,0,none⟩=some (.slice aN kN cN):=by rw[hB.cell];rfl
  have c1:W.cell? ⟨K,1,none⟩=some (.slice aD kD cD):=by rw[hB.cell];rfl
  have c2:W.cell? ⟨K,2,none⟩=some (.slice aP kP cP):=by rw[hB.cell];rfl
  have c3:W.cell? ⟨K,3,none⟩=some (.slice aQ kQ cQ):=by rw[hB.cell];rfl
  have c4:W.cell? ⟨K,4,none⟩=some (.int .i64 E):=by rw[hB.cell];rfl
  have HOK:=hide hok
  have HV:=hide hV
  clear hK1 hK2 m01 hok C1 ei ej emm di dj dm we wp wq h1
  go_wp2_with fail
  have hne2:K≠w.heap.size+1:=hB.ne hK2c (by decide)
  have hS0:Hid (KeyS w K (.slice aN kN cN) (.slice aD kD cD) (.slice aP kP cP) (.slice aQ kQ cQ) (.int .i64 E) W):=hide ⟨c0,c1,c2,c3,c4,mc⟩
  clear c0 c1 c2 c3 c4 hB hV
  go_region_held3 (fun w'=>w'.cell? ⟨K,0,none⟩=some (.slice aN kN cN)∧w'.cell? ⟨K,1,none⟩=some (.slice aD kD cD)∧w'.cell? ⟨K,2,none⟩=some (.slice aP kP cP)∧w'.cell? ⟨K,3,none⟩=some (.slice aQ kQ cQ)∧w'.cell? ⟨K,4,none⟩=some (.int .i64 E)∧Mod [] w w')
   ((show KeyS w K (.slice aN kN cN) (.slice aD kD cD) (.slice aP kP cP) (.slice aQ kQ cQ) (.int .i64 E) _;(repeat (first|with_reducible exact hS4.out|with_reducible exact hS3.out|with_reducible exact hS2.out|with_reducible exact hS1.out|with_reducible exact hS0.out|((with_reducible refine KeyS.set ?_ ?_ ?_);rotate_left;(focus omega);(focus omega))|with_reducible refine KeyS.up ?_ ((Mod.refl [] _).drew)));done))
   (first|(go_at_call_of 15 (Value.slice aN kN cN);refine(c_plain _ _ _ (HV.out.n.mod ((Mod.refl [] W).drew)) HV.out.bN).mono ?_;rintro r x1 ⟨uN,BN,rfl,mm,yN,lN,eN⟩;have M1:Mod [] W x1:=mm.ofDrew;have hS1:=hide (hS0.out.up M1);obtain⟨sN,tN,rfl⟩:=SliceB.isSlice yN.1;have LN:=hide lN;have VN:=hide eN;clear lN eN;clear mm)|(go_at_call_of 15 (Value.slice aD kD cD);refine(c_plain _ _ _ (HV.out.d.mod (M1)) HV.out.bD).mono ?_;rintro r x2 ⟨uD,BD,rfl,mm,yD,lD,eD⟩;have M2:Mod [] W x2:=M1.then mm;have hS2:=hide (hS0.out.up M2);obtain⟨sD,tD,rfl⟩:=SliceB.isSlice yD.1;have LD:=hide lD;have VD:=hide eD;clear lD eD;replace yN:=yN.mod mm;clear mm)|(go_at_call_of 15 (Value.slice aP kP cP);refine(c_plain _ _ _ (HV.out.p.mod (M2)) HV.out.bP).mono ?_;rintro r x3 ⟨uP,BP,rfl,mm,yP,lP,eP⟩;have M3:Mod [] W x3:=M2.then mm;have hS3:=hide (hS0.out.up M3);obtain⟨sP,tP,rfl⟩:=SliceB.isSlice yP.1;have LP:=hide lP;have VP:=hide eP;clear lP eP;replace yN:=yN.mod mm;replace yD:=yD.mod mm;clear mm)|(go_at_call_of 15 (Value.slice aQ kQ cQ);refine(c_plain _ _ _ (HV.out.q.mod (M3)) HV.out.bQ).mono ?_;rintro r x4 ⟨uQ,BQ,rfl,mm,yQ,lQ,eQ⟩;have M4:Mod [] W x4:=M3.then mm;have hS4:=hide (hS0.out.up M4);obtain⟨sQ,tQ,rfl⟩:=SliceB.isSlice yQ.1;have LQ:=hide lQ;have VQ:=hide eQ;clear lQ eQ;replace yN:=yN.mod mm;replace yD:=yD.mod mm;replace yP:=yP.mod mm;clear mm;have hK1x:=blk_up hK1c M4;have hK2x:=blk_up hK2c M4;have f0:=hK1x.frozen 0;have g0:=hK2x.frozen 0;have f1:=hK1x.frozen 1;have g1:=hK2x.frozen 1;have f2:=hK1x.frozen 2;have g2:=hK2x.frozen 2;have f3:=hK1x.frozen 3;have g3:=hK2x.frozen 3;have f4:=hK1x.frozen 4;have g4:=hK2x.frozen 4;have d0:x4.cell? ⟨w.heap.size,0,none⟩=some (.slice none 0 0):=(by rw[hK1x.cell];rfl);have d1:x4.cell? ⟨w.heap.size,1,none⟩=some (.slice none 0 0):=(by rw[hK1x.cell];rfl);have d2:x4.cell? ⟨w.heap.size,2,none⟩=some (.slice none 0 0):=(by rw[hK1x.cell];rfl);have d3:x4.cell? ⟨w.heap.size,3,none⟩=some (.slice none 0 0):=(by rw[hK1x.cell];rfl);have d4:x4.cell? ⟨w.heap.size,4,none⟩=some (.int .i64 0):=(by rw[hK1x.cell];rfl);have b0:x4.cell? ⟨w.heap.size+1,0,none⟩=some (.slice none 0 0):=(by rw[hK2x.cell];rfl);have b1:x4.cell? ⟨w.heap.size+1,1,none⟩=some (.int .i64 0):=(by rw[hK2x.cell];rfl);have b2:x4.cell? ⟨w.heap.size+1,2,none⟩=some (.slice none 0 0):=(by rw[hK2x.cell];rfl);have b3:x4.cell? ⟨w.heap.size+1,3,none⟩=some (.slice none 0 0):=(by rw[hK2x.cell];rfl);have b4:x4.cell? ⟨w.heap.size+1,4,none⟩=some (.slice none 0 0):=(by rw[hK2x.cell];rfl)))
  go_wp2_with fail
  obtain⟨W5,hW5⟩:∃W,W=(((((x4.setCell ⟨w.heap.size,0,none⟩ (.slice aN kN cN)).setCell ⟨w.heap.size,1,none⟩ (.slice aD kD cD)).setCell ⟨w.heap.size,2,none⟩ (.slice aP kP cP)).setCell ⟨w.heap.size,3,none⟩ (.slice aQ kQ cQ)).setCell ⟨w.heap.size,4,none⟩ (.int .i64 E)):=⟨_,rfl⟩
  have hb1:Blk W5 w.heap.size 27 [.slice aN kN cN,.slice aD kD cD,.slice aP kP cP,.slice aQ kQ cQ,.int .i64 E]:=by rw[hW5];exact(Blk.setCell (Blk.setCell (Blk.setCell (Blk.setCell (Blk.setCell hK1x 0 (.slice aN kN cN)) 1 (.slice aD kD cD)) 2 (.slice aP kP cP)) 3 (.slice aQ kQ cQ)) 4 (.int .i64 E))
  have hb2:Blk W5 (w.heap.size+1) 29 [.slice none 0 0,.int .i64 0,.slice none 0 0,.slice none 0 0,.slice none 0 0]:=by rw[hW5];exact(Blk.setCell_other (Blk.setCell_other (Blk.setCell_other (Blk.setCell_other (Blk.setCell_other hK2x ⟨w.heap.size,0,none⟩ (.slice aN kN cN) (by simp)) ⟨w.heap.size,1,none⟩ (.slice aD kD cD) (by simp)) ⟨w.heap.size,2,none⟩ (.slice aP kP cP) (by simp)) ⟨w.heap.size,3,none⟩ (.slice aQ kQ cQ) (by simp)) ⟨w.heap.size,4,none⟩ (.int .i64 E) (by simp))
  have m5:Mod [w.heap.size] x4 W5:=by rw[hW5];exact(Mod.setCell (Mod.setCell (Mod.setCell (Mod.setCell (Mod.setCell (Mod.refl [w.heap.size] x4) _ _ (by simp)) _ _ (by simp)) _ _ (by simp)) _ _ (by simp)) _ _ (by simp))
  have mm5:Mod [] w W5:=by rw[hW5];exact(Mod.setCell (Mod.setCell (Mod.setCell (Mod.setCell (Mod.setCell (mc.then M4) _ _ (fun h=>absurd h (by simp))) _ _ (fun h=>absurd h (by simp))) _ _ (fun h=>absurd h (by simp))) _ _ (fun h=>absurd h (by simp))) _ _ (fun h=>absurd h (by simp)))
  rw[←hW5]
  obtain⟨W10,hW10⟩:∃W,W=(((((W5.setCell ⟨w.heap.size+1,0,none⟩ (.slice sN BN.length tN)).setCell ⟨w.heap.size+1,1,none⟩ (.int .i64 E)).setCell ⟨w.heap.size+1,2,none⟩ (.slice sD BD.length tD)).setCell ⟨w.heap.size+1,3,none⟩ (.slice sP BP.length tP)).setCell ⟨w.heap.size+1,4,none⟩ (.slice sQ BQ.length tQ)):=⟨_,rfl⟩
  have he1:Blk W10 w.heap.size 27 [.slice aN kN cN,.slice aD kD cD,.slice aP kP cP,.slice aQ kQ cQ,.int .i64 E]:=by rw[hW10];exact(Blk.setCell_other (Blk.setCell_other (Blk.setCell_other (Blk.setCell_other (Blk.setCell_other hb1 ⟨w.heap.size+1,0,none⟩ (.slice sN BN.length tN) (by simp)) ⟨w.heap.size+1,1,none⟩ (.int .i64 E) (by simp)) ⟨w.heap.size+1,2,none⟩ (.slice sD BD.length tD) (by simp)) ⟨w.heap.size+1,3,none⟩ (.slice sP BP.length tP) (by simp)) ⟨w.heap.size+1,4,none⟩ (.slice sQ BQ.length tQ) (by simp))
  have he2:Blk W10 (w.heap.size+1) 29 [.slice sN BN.length tN,.int .i64 E,.slice sD BD.length tD,.slice sP BP.length tP,.slice sQ BQ.length tQ]:=by rw[hW10];exact(Blk.setCell (Blk.setCell (Blk.setCell (Blk.setCell (Blk.setCell hb2 0 (.slice sN BN.length tN)) 1 (.int .i64 E)) 2 (.slice sD BD.length tD)) 3 (.slice sP BP.length tP)) 4 (.slice sQ BQ.length tQ))
  have m10:Mod [w.heap.size+1] W5 W10:=by rw[hW10];exact(Mod.setCell (Mod.setCell (Mod.setCell (Mod.setCell (Mod.setCell (Mod.refl [w.heap.size+1] W5) _ _ (by simp)) _ _ (by simp)) _ _ (by simp)) _ _ (by simp)) _ _ (by simp))
  have mm10:Mod [] w W10:=by rw[hW10];exact(Mod.setCell (Mod.setCell (Mod.setCell (Mod.setCell (Mod.setCell mm5 _ _ (fun h=>absurd h (by simp))) _ _ (fun h=>absurd h (by simp))) _ _ (fun h=>absurd h (by simp))) _ _ (fun h=>absurd h (by simp))) _ _ (fun h=>absurd h (by simp)))
  rw[←hW10]
  have n1:∀v n,NatV x4 v n→NatV W10 v n:=fun v n h=>natV_gen (natV_key h hK1x m5) hb2 (by intro i x h;rcases i with _|_|_|_|_|i<;>simp at h<;>omega) m10
  have y1:∀v B,ByV x4 v B→ByV W10 v B:=fun v B h=>byV_gen (byV_gen h hK1x (by intro i x h;rcases i with _|_|_|_|_|i<;>simp at h) m5) hb2 (by intro i x h;rcases i with _|_|_|_|_|i<;>simp at h) m10
  refine bodyPost_ret (results_kof rfl rfl rfl (by rw[he1.cell];rfl) (by rw[he1.cell];rfl) (by rw[he1.cell];rfl) (by rw[he1.cell];rfl) (by rw[he1.cell];rfl) (by rw[he2.cell];rfl) (by rw[he2.cell];rfl) (by rw[he2.cell];rfl) (by rw[he2.cell];rfl) (by rw[he2.cell];rfl)) rfl ?_
  have V4:=HV.out.mod M4
  exact⟨mm10,e,_,_,_,_,E,N,D,P,Q,ok,_,_,_,_,BN,BD,BP,BQ,H3.out,H2.out,rfl,⟨n1 _ _ V4.n,n1 _ _ V4.d,n1 _ _ V4.p,n1 _ _ V4.q,V4.bN,V4.bD,V4.bP,V4.bQ⟩,HOK.out,⟨y1 _ _ yN,LN.out,VN.out⟩,⟨y1 _ _ yD,LD.out,VD.out⟩,⟨y1 _ _ yP,LP.out,VP.out⟩,⟨y1 _ _ yQ,LQ.out,VQ.out⟩⟩
end Go.Proofs.YtfgmnbmnpihjdaaGreatDoor
namespace Go.Proofs.YtfgmnbmnpihjdaaGreatDoor
open Go.RowKit
theorem conv_bytes{w:World}{v:Value}{B:List Nat}(h:SliceB w v B):(convert 23 9 v).run Tryz.prog w=.ok (.string (strOfNums (B.map (fun x:Nat=>(x:Int))))) w:=by
 rcases h with⟨rfl,rfl⟩|⟨x,c,rfl,rfl⟩|⟨b,o,c,rfl,hc,hb⟩
 ·exact run_convert_bytes_zero w 23 5 Tryz.underlying23 Tryz.underlying5 none 0 9 Tryz.underlying9
 ·exact run_convert_bytes_zero w 23 5 Tryz.underlying23 Tryz.underlying5 (some x) c 9 Tryz.underlying9
 ·exact run_convert_bytes_arg (P:=Tryz.prog) w 23 5 Tryz.underlying23 Tryz.underlying5 b o B.length c (B.map (fun x:Nat=>(x:Int))) (by simp) (by
   intro i hi
   rw[hb i hi]
   simp[nth,hi]) 9 Tryz.underlying9
set_option maxRecDepth 100000 in
theorem c_BytesEq(v u:Value)(B:List Nat)(w:World)(h1:SliceB w v B)(h2:SliceB w u B):Calls Tryz.prog 12 #[v,u] w fun e w'=>e=.returned (.bool true)∧w=w':=by
 have e1:=conv_bytes h1
 have e2:=conv_bytes h2
 generalize strOfNums (B.map (fun x:Nat=>(x:Int)))=s at e1 e2
 clear h1 h2
 go_enter Tryz.func12,Tryz.ntmps12
 go_wp2_with fail
 go_ret
 exact⟨by simp,rfl⟩
end Go.Proofs.YtfgmnbmnpihjdaaGreatDoor
