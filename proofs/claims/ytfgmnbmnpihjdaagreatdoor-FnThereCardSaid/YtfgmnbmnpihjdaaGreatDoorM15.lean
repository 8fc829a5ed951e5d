/- Lemmas of mine for the walk and its plain laws: NatM NatN AppA PubA PubB SpecA -/
import Derived.Test.YtfgmnbmnpihjdaaGreatDoorM14
import Derived.WalkSpells
import Derived.Laws.OwnMore
import Derived.OwnWalk
set_option linter.all false
set_option maxHeartbeats 1600000
namespace Go.Proofs.YtfgmnbmnpihjdaaGreatDoor
open Go.RowKit
structure ModIs(w:World)(n m x p:Nat)(M R:List Nat):Prop where
 nat:NatIs w x p M R
 words:Words M
 top:M.length≠0→nth M (M.length-1)≠0
 big:1<val M
 room:M.length≤20000
 even:val M%2=0→MHead w m x false 0 (.pointer none)
 odd:val M%2=1→∃k y q X S,MHead w m x true k (ptr y)∧(k*nth M 0)%W=W-1∧NatIs w y q X S∧Below' X M∧val X=(W^M.length*W^M.length)%val M∧n≤y∧n≤q
 new:n≤m
theorem val_parity{M:List Nat}:nth M 0%2=val M%2:=by
 cases M with
 |nil=>rfl
 |cons a l=>simp only[nth,val,List.getD_cons_zero];rw[W_eq];omega
theorem len_pos{M:List Nat}(h:1<val M):0<M.length:=by
 cases M with
 |nil=>simp[val]at h
 |cons a l=>simp
set_option maxRecDepth 100000 in
theorem c_newModulus(x p:Nat)(M R:List Nat)(w:World)(h:NatIs w x p M R)(hW:Words M)(hs:1<val M)(htop:M.length≠0→nth M (M.length-1)≠0)(hroom:M.length≤20000) :
 Calls Tryz.prog 106 #[ptr x] w fun e w'=>∃m,e=.returned (.tuple #[ptr m,.nilIface])∧Mod [] w w'∧ModIs w' w.heap.size m x p M R:=by
 obtain⟨w1,hw1⟩:∃w1,w1=w.alloc (.cells #[ptr x,.bool false,.int .u64 0,.pointer none] 178):=⟨_,rfl⟩
 obtain⟨m,hm⟩:∃m,m=w.heap.size:=⟨_,rfl⟩
 have hb:NatIs w1 x p M R:=by rw[hw1];exact⟨h.head.alloc _,h.row.alloc _,h.cap⟩
 have m0:Mod [] w w1:=by rw[hw1];exact(Mod.refl _ _).alloc _
 have hh:MHead w1 m x false 0 (.pointer none):=by rw[hw1,hm];exact Blk.new w _ [ptr x,.bool false,u64 0,.pointer none]
 have hxm:x≠m:=by have:=h.xlt;omega
 have hpm:p≠m:=by have:=h.plt;omega
 have e0:eqB (val M) 0=0:=by unfold eqB;rw[if_neg (by omega)]
 have e1:eqB (val M) 1=0:=by unfold eqB;rw[if_neg (by omega)]
 have hlen:=len_pos hs
 have HW1:=hide hw1
 have HM:=hide hm
 have HT:=hide htop
 clear hw1 hm htop
 rcases Nat.mod_two_eq_zero_or_one (val M)with hev|hod
 ·go_enter Tryz.func106,Tryz.ntmps106
  go_wp2_with fail
  rw[←HW1.out,←HM.out]
  refine(c_IsZero x p M R _ hb).mono ?_;rintro e w' ⟨rfl,rfl⟩
  have hc0:=hh.c0
  go_wp2_with fail
  refine(c_IsOne x p M R _ hb).mono ?_;rintro e w' ⟨rfl,rfl⟩
  go_wp2_with fail
  refine(c_IsOdd x p M R _ hb hW).mono ?_;rintro e w' ⟨rfl,rfl⟩
  rw[hev]
  have HEV:=hide hev
  clear hev
  go_wp2_with fail
  go_ret2
  exact⟨m,rfl,m0,hb,hW,HT.out,hs,hroom,fun _=>hh,fun hod=>by have:=HEV.out;omega,by rw[HM.out];omega⟩
 ·have hw0:=hb.at 0 hlen
  obtain⟨k,hk⟩:∃k,k=m0inv (nth M 0):=⟨_,rfl⟩
  have hkl:(k*nth M 0)%W=W-1:=by rw[hk];exact m0inv_law (by rw[val_parity];exact hod)
  have HK:=hide hk
  have HKL:=hide hkl
  clear hk hkl
  go_enter Tryz.func106,Tryz.ntmps106
  go_wp2_with fail
  rw[←HW1.out,←HM.out]
  refine(c_IsZero x p M R _ hb).mono ?_;rintro e w' ⟨rfl,rfl⟩
  have hc0:=hh.c0
  go_wp2_with fail
  refine(c_IsOne x p M R _ hb).mono ?_;rintro e w' ⟨rfl,rfl⟩
  go_wp2_with fail
  refine(c_IsOdd x p M R _ hb hW).mono ?_;rintro e w' ⟨rfl,rfl⟩
  rw[hod]
  have HOD:=hide hod
  clear hod
  have hf1:=hh.frozen 1
  have hf2:=hh.frozen 2
  have hf3:=hh.frozen 3
  have hc1:=hh.c1
  have hc2:=hh.c2
  have hcx:=hb.cell
  go_wp2_with fail
  refine(c_minusInverse (nth M 0) (hW.nth 0) _).mono ?_;rintro e w' ⟨rfl,rfl⟩
  rw[←HK.out]
  have hh2:=(hh.setCell 1 (.bool true)).setCell 2 (u64 k)
  obtain⟨w2,hw2⟩:∃w2,w2=(w1.setCell ⟨m,1,none⟩ (.bool true)).setCell ⟨m,2,none⟩ (.int .u64 (k:Int)):=⟨_,rfl⟩
  have m2:Mod [] w w2:=by rw[hw2];exact(m0.setCell _ _ (by simp;have:=HM.out;omega)).setCell _ _ (by simp;have:=HM.out;omega)
  have hb2:NatIs w2 x p M R:=by
   rw[hw2]
   refine⟨(hb.head.setCell_other _ _ ?_).setCell_other _ _ ?_,(hb.row.setCell_other _ _ ?_).setCell_other _ _ ?_,hb.cap⟩<;>simp[hxm,hpm]
  have hh3:MHead w2 m x true k (.pointer none):=by rw[hw2];exact hh2
  have HW2:=hide hw2
  clear hw2 hh2
  go_wp2_with fail
  rw[←HW2.out]
  refine(c_rr m x p k true _ M R _ hh3 hb2 hW hlen hroom (HT.out (by omega)) hs HOD.out HKL.out).mono ?_
  rintro e w3 ⟨y,q,X,S,rfl,m3,hy3,g1,g2,hbX,hvX⟩
  have hh4:MHead w3 m x true k (.pointer none):=Blk.mod hh3 m3 (by simp)
  have hb3:=hb2.mod m3 (by simp) (by simp)
  have hf3':=hh4.frozen 3
  have hc3:=hh4.c3
  have hml:=hh3.lt
  have hsz:=m0.size
  have hsz2:=m2.size
  have hh5:=hh4.setCell 3 (ptr y)
  obtain⟨w4,hw4⟩:∃w4,w4=w3.setCell ⟨m,3,none⟩ (ptr y):=⟨_,rfl⟩
  have m4:Mod [] w w4:=by rw[hw4];exact(Mod.trans (U:=[]) m2 m3 (by simp) (by simp)).setCell _ _ (by simp;have:=HM.out;omega)
  have hb4:NatIs w4 x p M R:=by
   rw[hw4]
   refine⟨hb3.head.setCell_other _ _ ?_,hb3.row.setCell_other _ _ ?_,hb.cap⟩<;>simp[hxm,hpm]
  have hy4:NatIs w4 y q X S:=by
   rw[hw4]
   refine⟨hy3.head.setCell_other _ _ ?_,hy3.row.setCell_other _ _ ?_,hy3.cap⟩<;>simp<;>omega
  have hh6:MHead w4 m x true k (ptr y):=by rw[hw4];exact hh5
  have HVX:=hide hvX
  have HW4:=hide hw4
  clear hw4 hh5 hvX
  go_wp2_with fail
  go_ret2
  rw[←HW4.out]
  refine⟨m,rfl,m4,hb4,hW,HT.out,hs,hroom,fun hev=>by have:=HOD.out;omega,fun _=>⟨k,y,q,X,S,hh6,HKL.out,hy4,hbX,HVX.out,?_,?_⟩,by rw[HM.out];omega⟩<;>omega
theorem ModIs.mono{w:World}{n n' m x p:Nat}{M R:List Nat}(h:ModIs w n m x p M R)(hn:n'≤n):ModIs w n' m x p M R:=
 ⟨h.nat,h.words,h.top,h.big,h.room,h.even,fun ho=>by
   obtain⟨k,y,q,X,S,a,b,c,d,e,f,g⟩:=h.odd ho
   exact⟨k,y,q,X,S,a,b,c,d,e,by omega,by omega⟩,by have:=h.new;omega⟩
theorem ModIs.head{w:World}{n m x p:Nat}{M R:List Nat}(h:ModIs w n m x p M R):∃o k r,MHead w m x o k r:=by
 rcases Nat.mod_two_eq_zero_or_one (val M)with he|ho
 ·exact⟨_,_,_,h.even he⟩
 ·obtain⟨k,y,q,X,S,a,_⟩:=h.odd ho
  exact⟨_,_,_,a⟩
theorem ModIs.mod{w w':World}{n m x p:Nat}{M R:List Nat}(h:ModIs w n m x p M R)(hm:Mod [] w w'):ModIs w' n m x p M R:=
 ⟨h.nat.mod hm (by simp) (by simp),h.words,h.top,h.big,h.room,fun he=>(h.even he).mod hm (by simp),fun ho=>by
   obtain⟨k,y,q,X,S,a,b,c,d,e,f,g⟩:=h.odd ho
   exact⟨k,y,q,X,S,a.mod hm (by simp),b,c.mod hm (by simp) (by simp),d,e,f,g⟩,h.new⟩
theorem apart_of{v:Value}{w:World}(hnew:∀b o n c,v=sl b o n c→b<w.heap.size){k:Nat}(hk:w.heap.size≤k):Apart v k:=by
 intro b o n c hv
 have:=hnew _ _ _ _ hv
 omega
set_option maxRecDepth 100000 in
theorem c_NewModulus(v:Value)(B:List Nat)(w:World)(hb:SliceB w v B)(hB:Bytes B)(hnew:∀b o n c,v=sl b o n c→b<w.heap.size)(hbig:B.length≤100000)(hs:1<bval B) :
 Calls Tryz.prog 75 #[v] w fun e w'=>∃m x p M R,e=.returned (.tuple #[ptr m,.nilIface])∧Mod [] w w'∧ModIs w' w.heap.size m x p M R∧val M=bval B∧w.heap.size≤x∧w.heap.size≤p:=by
 go_enter Tryz.func75,Tryz.ntmps75
 go_wp2_with fail
 refine(c_NewNat _).mono ?_;rintro e w1 ⟨x,p,rfl,m1,hx1,g1,g2⟩
 go_wp2_with fail
 refine(c_resetToBytes x p v _ _ B _ hx1 (hb.mod m1 (by simp)) hB (apart_of hnew g1) (apart_of hnew g2) (fun b o n c hv=>Nat.lt_of_lt_of_le (hnew b o n c hv) m1.size) hbig).mono ?_
 rintro e w2 ⟨p2,V,R2,rfl,m2,hx2,k2,hVw,hVv,hVt,hVl⟩
 have m12:Mod [] w w2:=Mod.trans (U:=[]) m1 m2 (by simp) (by simp;omega)
 have gp2:w.heap.size≤p2:=k2.ge g2 m1.size
 have gsz:=m12.size
 go_wp2_with fail
 refine(c_newModulus x p2 V R2 _ hx2 hVw (by rw[hVv];exact hs) hVt (by omega)).mono ?_
 rintro e w3 ⟨q,rfl,m3,hM⟩
 have m13:Mod [] w w3:=Mod.trans (U:=[]) m12 m3 (by simp) (by simp)
 have hM2:=hM.mono gsz
 have HV:=hide hVv
 clear hVv hVl
 go_wp2_with fail
 go_ret2
 exact⟨q,x,p2,V,R2,rfl,m13,hM2,HV.out,g1,gp2⟩
set_option maxRecDepth 100000 in
theorem c_ModNat(m x p k:Nat)(o:Bool)(r:Value)(M R:List Nat)(w:World)(hm:MHead w m x o k r)(hx:NatIs w x p M R) :
 Calls Tryz.prog 79 #[ptr m] w fun e w'=>∃y q S,e=.returned (ptr y)∧Mod [] w w'∧NatIs w' y q M S:=by
 go_enter Tryz.func79,Tryz.ntmps79
 go_wp2_with fail
 refine(c_NewNat _).mono ?_;rintro e w1 ⟨y,q,rfl,m1,hy1,g1,g2⟩
 have hm1:MHead w1 m x o k r:=Blk.mod hm m1 (by simp)
 have hc:=hm1.c0
 have hx1:=hx.mod m1 (by simp) (by simp)
 have l1:=hx.xlt
 have l2:=hx.plt
 go_wp2_with fail
 refine(c_set y q x p _ _ M R _ hy1 hx1 (by omega) (by omega) (by omega) (by omega)).mono ?_
 rintro e w2 ⟨q2,S,rfl,m2,hy2,k2⟩
 have m12:Mod [] w w2:=Mod.trans (U:=[]) m1 m2 (by simp) (by simp;omega)
 go_wp2_with fail
 go_ret
 exact⟨y,q2,S,rfl,m12,hy2⟩
theorem info_u8:(Tryz.prog.info? 5).map (fun i=>(i.zero,i.size,i.bytes))=some (some (.int .u8 0),1,1):=by kernel_rfl
theorem info_int:(Tryz.prog.info? 3).map (fun i=>(i.zero,i.size,i.bytes))=some (some (.int .i64 0),1,8):=by kernel_rfl
theorem Mod.grown{w w':World}{row:Option Nat}(h:w.grownBy w' row){S:List Nat}(hr:∀k,row=some k→k<w.heap.size→k∈S):Mod S w w':=
 ⟨h.os,h.tape,h.output,h.size,fun k hk hS=>h.block k hk (fun e=>hS (hr k e.symm hk))⟩
theorem run_app{t e:Nat}{z:Value}{B:Nat}(h1:z.cells=#[z])(ht:Tryz.prog.underlying t=some (.slice e))(hi:(Tryz.prog.info? e).map (fun i=>(i.zero,i.size,i.bytes))=some (some z,1,B))(hB:B≤16)
 (base:Nat) (v:Value) (n:Nat) (xs:List Value) (w:World) (hown:w.ownsRow base e 1 v n xs) (a:Addr) (c:Nat) (news:List Value) (m:Nat) (hl:news.length=m)
 (hnews:∀j u,news[j]? = some u→w.cell? (a.add j)=some u) (hc:∀u∈news,u.oneCell'=true) (hn:n+m≤1000000) (hb:base≤w.heap.size) (ty:Nat) :
 ∃v' w',(Builtin.append_ #[t,t] ty #[v,.slice (some a) m c]).run Tryz.prog w=.ok v' w'∧w'.ownsRow base e 1 v' (n+m) (xs++news)∧w.grownBy w' v.ownBlock:=by
 obtain⟨i,g1,g2,g3,g4⟩:=info_parts hi
 obtain⟨v',w',r1,r2,r3,_⟩:=run_append_own w base t ty e i z 1 B ht g1 g2 g3 g4 (by rw[h1];rfl) (by omega) v n xs hown a m c news (by omega) hnews hc (by simp only[maxLen];omega)
  (Nat.le_trans (Nat.mul_le_mul hn hB) (by omega)) hb
 exact⟨v',w',r1,r2,r3⟩
theorem run_app_none{t e:Nat}{z:Value}{B:Nat}(ht:Tryz.prog.underlying t=some (.slice e))(hi:(Tryz.prog.info? e).map (fun i=>(i.zero,i.size,i.bytes))=some (some z,1,B))
 (base:Nat) (v:Value) (n:Nat) (xs:List Value) (w:World) (hown:w.ownsRow base e 1 v n xs) (ty:Nat) :
 (Builtin.append_ #[t,t] ty #[v,.slice none 0 0]).run Tryz.prog w=.ok v w:=by
 obtain⟨i,g1,g2,g3,g4⟩:=info_parts hi
 exact run_append_owned_none w base t ty e i 1 ht g1 v n xs hown
theorem wpl_run2{ops:Array Oper}{rest:List Oper}{o:Oper}{a:Act}{Q:Exit→Act→World→Prop}{w w':World}{v':Value}(hgd:o.guard=none)(s x:Operand)(t:TypeId)
 (ho:o.op=.call {callee:=.builtin .append,args:=#[s,x],argTypes:=#[t,t]}) (v xv:Value) (hs:a.eval s=v) (hx:a.eval x=xv)
 (hr:(Builtin.append_ #[t,t] o.type #[v,xv]).run Tryz.prog w=.ok v' w') (h:wpList Tryz.prog ops Q rest (a.put o.dst v') w'):wpList Tryz.prog ops Q (o::rest) a w:=by
 refine wpList_plain hgd fun K hK=>?_
 unfold Oper.wp execOp
 simp only[ho,resolve,invoke,builtin,Sem.run_bind,Sem.run_pure,Result.andThen_ok,List.map_toArray,List.map_cons,List.map_nil,hs,hx,hr]
 exact hK _ _ h
theorem SliceB.ofOwns{w:World}{base n:Nat}{v:Value}{B:List Nat}(h:w.ownsRow base 5 1 v n (B.map u8)) :
 SliceB w v B∧∀b o n c,v=sl b o n c→base≤b∧b<w.heap.size:=by
 obtain⟨h1,h2⟩:=h
 rw[List.length_map,Nat.mul_one]at h1
 subst h1
 rcases h2 with⟨rfl,h0⟩|⟨g,cap,cur,rfl,hb,hg,hc,_,hs,ht⟩
 ·exact⟨.inl ⟨rfl,List.eq_nil_of_length_eq_zero h0⟩,by intro b o n c e;cases e⟩
 ·refine⟨.inr (.inr ⟨g,0,cap,rfl,hc,?_⟩),?_⟩
  ·intro i hi
   rw[Nat.zero_add,cell_of_row w g i cur 5 (0,0) hg]
   rw[Nat.mul_one]at ht
   have:(cur.toList.take B.length)[i]? = some (u8 (nth B i)):=by rw[ht,map_get hi]
   rw[List.getElem?_take,if_pos hi]at this
   simpa using this
  ·intro b o n c e
   simp only[Value.slice.injEq,Option.some.injEq,Addr.mk.injEq]at e
   obtain⟨⟨rfl,_⟩,_⟩:=e
   refine⟨hb,?_⟩
   rcases Nat.lt_or_ge g w.heap.size with h'|h'
   ·exact h'
   ·rw[Array.getElem?_eq_none h']at hg;cases hg
set_option maxRecDepth 100000 in
theorem c_copied(v:Value)(B:List Nat)(w:World)(hb:SliceB w v B)(hbig:B.length≤100000) :
 Calls Tryz.prog 26 #[v] w fun e w'=>∃v',e=.returned v'∧Mod [] w w'∧SliceB w' v' B∧∀b o n c,v'=sl b o n c→w.heap.size≤b∧b<w'.heap.size:=by
 rcases hb with⟨rfl,rfl⟩|⟨x,c,rfl,rfl⟩|⟨b,o,c,rfl,hc,hb⟩
 ·have hr:=fun ty=>run_app_none Tryz.underlying23 info_u8 w.heap.size (.slice none 0 0) 0 [] w (World.ownsRow_nil _ _ _ _) ty
  go_enter Tryz.func26,Tryz.ntmps26
  go_wp2_with fail
  go_ret
  exact⟨_,rfl,Mod.refl _ _,.inl ⟨rfl,rfl⟩,by intro b o n c e;cases e⟩
 ·obtain⟨v',w',hr,hown,hgr⟩:=run_app (z:=.int .u8 0) rfl Tryz.underlying23 info_u8 (by omega) w.heap.size (.slice none 0 0) 0 [] w (World.ownsRow_nil _ _ _ _) x c [] 0 rfl (by intro j u hj;simp at hj) (by simp) (by omega) (Nat.le_refl _) 23
  rw[List.nil_append]at hown
  obtain⟨s1,s2⟩:=SliceB.ofOwns (B:=[]) hown
  have hm:Mod [] w w':=Mod.grown hgr (by intro k hk;cases hk)
  go_enter Tryz.func26,Tryz.ntmps26
  go_wp2_with (at_builtin;refine wpl_run2 rfl _ _ _ rfl _ _ rfl rfl hr ?_)
  go_ret
  exact⟨v',rfl,hm,s1,s2⟩
 ·obtain⟨v',w',hr,hown,hgr⟩:=run_app (z:=.int .u8 0) rfl Tryz.underlying23 info_u8 (by omega) w.heap.size (.slice none 0 0) 0 [] w (World.ownsRow_nil _ _ _ _) ⟨b,o,none⟩ c (B.map u8) B.length (by simp)
   (by
     intro j u hj
     have hjl:j<B.length:=by simpa using(List.getElem?_eq_some_iff.1 hj).1
     rw[map_get hjl]at hj
     rw[add_addr,hb j hjl]
     exact hj) (oneCell_map u8 (fun _=>rfl) B) (by omega) (Nat.le_refl _) 23
  rw[List.nil_append]at hown
  obtain⟨s1,s2⟩:=SliceB.ofOwns hown
  have hm:Mod [] w w':=Mod.grown hgr (by intro k hk;cases hk)
  go_enter Tryz.func26,Tryz.ntmps26
  go_wp2_with (at_builtin;refine wpl_run2 rfl _ _ _ rfl _ _ rfl rfl hr ?_)
  go_ret
  exact⟨v',rfl,hm,s1,s2⟩
abbrev PHead(w:World)(k m:Nat)(e:Int):Prop:=Blk w k 118 [ptr m,.int .i64 e]
theorem PHead.c0{w:World}{k m:Nat}{e:Int}(h:PHead w k m e):w.cell? ⟨k,0,none⟩=some (ptr m):=by rw[Blk.cell h];rfl
theorem PHead.c1{w:World}{k m:Nat}{e:Int}(h:PHead w k m e):w.cell? ⟨k,1,none⟩=some (.int .i64 e):=by rw[Blk.cell h];rfl
set_option maxRecDepth 100000 in
theorem c_NewPublic(v:Value)(ex:Int)(B:List Nat)(w:World)(hb:SliceB w v B)(hB:Bytes B)(hnew:∀b o n c,v=sl b o n c→b<w.heap.size)(hbig:B.length≤100000)(hs:1<bval B) :
 Calls Tryz.prog 49 #[v,.int .i64 ex] w fun e w'=>∃k m x p M R,e=.returned (.tuple #[ptr k,.nilIface])∧Mod [] w w'∧PHead w' k m ex∧ModIs w' w.heap.size m x p M R∧val M=bval B ∧
  w.heap.size≤k:=by
 go_enter Tryz.func49,Tryz.ntmps49
 go_wp2_with fail
 refine(c_NewModulus v B _ hb hB hnew hbig hs).mono ?_;rintro e w1 ⟨m,x,p,M,R,rfl,m1,hM,hv,g1,g2⟩
 have HV:=hide hv
 have gs:=m1.size
 clear hv hs
 go_wp2_with fail
 go_ret2
 refine⟨_,m,x,p,M,R,rfl,m1.alloc _,Blk.new w1 _ [ptr m,.int .i64 ex],hM.mod ((Mod.refl [] _).alloc _),HV.out,gs⟩
theorem and_one_i64{n:Nat}(h:n<2^63):bits .and .i64 (n:Int) 1=((n%2:Nat):Int):=by
 have hx:n &&& 1=n%2:=Nat.and_one_is_mod n
 have h1:(BitVec.ofInt 64 (n:Int)).toNat=n:=by
  rw[BitVec.ofInt_natCast,BitVec.toNat_ofNat];exact Nat.mod_eq_of_lt (by omega)
 have h2:(BitVec.ofInt 64 (1:Int)).toNat=1:=by decide
 show IntKind.i64.wrap ((BitVec.ofInt 64 (n:Int) &&& BitVec.ofInt 64 (1:Int)).toNat:Int)=_
 rw[BitVec.toNat_and,h1,h2,hx,IntKind.wrap_i64]
 omega
set_option maxRecDepth 100000 in
theorem c_check_good(k m x p n en:Nat)(M R:List Nat)(w:World)(hk:PHead w k m (en:Int))(hM:ModIs w n m x p M R)(hb:val M%2=1)(h2:2≤en)(ho:en%2=1)(hl:en≤2147483647) :
 Calls Tryz.prog 55 #[ptr k] w fun e w'=>∃f,e=.returned (.tuple #[.bool f,.nilIface])∧Mod [] w w':=by
 have hc0:=hk.c0
 obtain⟨o,kk,r,hm⟩:=hM.head
 have ha:=and_one_i64 (n:=en) (by omega)
 rw[ho]at ha
 have h2':¬(en:Int)<2:=by omega
 have hl':¬(2147483647:Int)<(en:Int):=by omega
 clear ho h2 hl
 go_enter Tryz.func55,Tryz.ntmps55
 go_wp2_with fail
 refine(c_ModNat m x p kk o r M R _ hm hM.nat).mono ?_
 rintro e w1 ⟨y,q,S,rfl,m1,hy1⟩
 have hk1:PHead w1 k m en:=Blk.mod hk m1 (by simp)
 have hM1:=hM.mod m1
 have hm1:MHead w1 m x o kk r:=Blk.mod hm m1 (by simp)
 have hc0:=hk1.c0
 have hc1:=hk1.c1
 go_wp2_with fail
 refine(c_IsOdd y q M S _ hy1 hM1.words).mono ?_;rintro e w' ⟨rfl,rfl⟩
 rw[hb]
 clear hb
 obtain⟨bl,hbl⟩:∃bl,bl=blen (val M):=⟨_,rfl⟩
 go_wp2_with fail
 refine(c_BitLen m x p kk o r M R _ hm1 hM1.nat hM1.words).mono ?_;rintro e w' ⟨rfl,rfl⟩
 rw[←hbl]
 go_wp2_with fail
 all_goals
  refine(c_BitLen m x p kk o r M R _ hm1 hM1.nat hM1.words).mono ?_;rintro e w' ⟨rfl,rfl⟩
  rw[←hbl]
 all_goals go_wp2_with fail
 all_goals go_ret2
 all_goals exact⟨_,rfl,m1⟩
set_option maxRecDepth 100000 in
theorem c_ZZCheck_good(k m x p n en:Nat)(M R:List Nat)(w:World)(hk:PHead w k m (en:Int))(hM:ModIs w n m x p M R)(hb:val M%2=1)(h2:2≤en)(ho:en%2=1)(hl:en≤2147483647) :
 Calls Tryz.prog 50 #[ptr k] w fun e w'=>e=.returned .nilIface∧Mod [] w w':=by
 go_enter Tryz.func50,Tryz.ntmps50
 go_wp2_with fail
 refine(c_check_good k m x p n en M R w hk hM hb h2 ho hl).mono ?_;rintro e w1 ⟨f,rfl,m1⟩
 clear hb h2 ho hl
 go_wp2_with fail
 go_ret
 exact⟨rfl,m1⟩
def keyOk(N:Nat)(e:Int):Bool:=decide (1<N) && decide (N%2=1) && decide (3≤e) && decide (e<2147483648) && decide (e%2=1)
theorem SliceB.lit{w:World}{v:Value}{B:List Nat}(h:SliceB w v B):∃a c,v=.slice a B.length c:=by
 rcases h with⟨rfl,rfl⟩|⟨a,c,rfl,rfl⟩|⟨b,o,c,rfl,hc,hb⟩
 ·exact⟨_,_,rfl⟩
 ·exact⟨_,_,rfl⟩
 ·exact⟨_,_,rfl⟩
set_option maxRecDepth 100000 in
theorem c_public_good(v:Value)(en:Nat)(B:List Nat)(w:World)(hb:SliceB w v B)(hB:Bytes B)(hbig:B.length≤512)(hk:keyOk (bval B) (en:Int)=true) :
 Calls Tryz.prog 21 #[v,.int .i64 (en:Int)] w fun e w'=>∃k m x p M R,e=.returned (.tuple #[ptr k,.bool true])∧Mod [] w w'∧PHead w' k m (en:Int)∧ModIs w' w.heap.size m x p M R∧val M=bval B∧w.heap.size≤k:=by
 obtain⟨a,c,hv⟩:=hb.lit
 have C:=hide (c_copied v B w hb (by omega))
 rw[hv]at C ⊢
 have hl:¬(512:Int)<(B.length:Int):=by omega
 have HB:=hide hbig
 have HK:Hid (1<bval B∧bval B%2=1∧3≤en∧en<2147483648∧en%2=1):=by
  refine hide ?_
  simp only[keyOk,Bool.and_eq_true,decide_eq_true_eq]at hk
  omega
 clear hbig hk
 go_enter Tryz.func21,Tryz.ntmps21
 go_wp2_with fail
 refine C.out.mono ?_
 rintro e w1 ⟨v',rfl,m1,s1,s2⟩
 go_wp2_with fail
 refine(c_NewPublic v' en B _ s1 hB (fun b o n c h=>(s2 b o n c h).2) (by have:=HB.out;omega) HK.out.1).mono ?_
 rintro e w2 ⟨k,m,x,p,M,R,rfl,m2,hk,hM,hv,g⟩
 have m12:Mod [] w w2:=Mod.trans (U:=[]) m1 m2 (by simp) (by simp)
 have HV:=hide hv
 clear hv
 go_wp2_with fail
 refine(c_ZZCheck_good k m x p _ en M R _ hk hM (by rw[HV.out];exact HK.out.2.1) (by have:=HK.out;omega) (by have:=HK.out;omega) (by have:=HK.out;omega)).mono ?_
 rintro e w3 ⟨rfl,m3⟩
 have m13:Mod [] w w3:=Mod.trans (U:=[]) m12 m3 (by simp) (by simp)
 have gs:=m1.size
 have hM3:=(hM.mod m3).mono gs
 have hk3:PHead w3 k m en:=Blk.mod hk m3 (by simp)
 go_wp2_with fail
 go_ret2
 exact⟨k,m,x,p,M,R,rfl,m13,hk3,hM3,HV.out,by omega⟩
def SliceK(k:Nat→Value)(w:World)(v:Value)(L:List Nat):Prop:=
 (v=.slice none 0 0∧L=[])∨∃b o c,v=sl b o L.length c∧L.length≤c∧∀i,i<L.length→w.cell? ⟨b,o+i,none⟩=some (k (nth L i))
theorem SliceK.mod{k:Nat→Value}{w w':World}{S:List Nat}{v:Value}{L:List Nat}(h:SliceK k w v L)(m:Mod S w w')(hS:∀x,x∈S→Apart v x):SliceK k w' v L:=by
 rcases h with⟨rfl,rfl⟩|⟨b,o,c,rfl,hc,hb⟩
 ·exact .inl ⟨rfl,rfl⟩
 ·refine .inr ⟨b,o,c,rfl,hc,fun i hi=>?_⟩
  rw[←hb i hi]
  exact World.cell?_of_block (m.block b (block_lt_of_cell (hb i hi)) (fun hx=>hS b hx _ _ _ _ rfl rfl))
theorem SliceK.lit{k:Nat→Value}{w:World}{v:Value}{L:List Nat}(h:SliceK k w v L):∃a c,v=.slice a L.length c:=by
 rcases h with⟨rfl,rfl⟩|⟨b,o,c,rfl,hc,hb⟩
 ·exact⟨_,_,rfl⟩
 ·exact⟨_,_,rfl⟩
def Own(k:Nat→Value)(T:Nat)(w:World)(base:Nat)(v:Value)(L:List Nat):Prop:=w.ownsRow base T 1 v L.length (L.map k)
theorem Own.blk{k:Nat→Value}{T:Nat}{w:World}{base:Nat}{v:Value}{L:List Nat}(h:Own k T w base v L) :
 (v=.slice none 0 0∧L=[])∨∃g cap rest,v=sl g 0 L.length cap∧base≤g∧Blk w g T (L.map k++rest)∧L.length+rest.length=cap∧cap≤maxLen:=by
 obtain⟨h1,h2⟩:=h
 rcases h2 with⟨rfl,h0⟩|⟨g,cap,cur,rfl,hb,hg,hc,hm,hs,ht⟩
 ·exact .inl ⟨rfl,List.eq_nil_of_length_eq_zero h0⟩
 ·refine .inr ⟨g,cap,cur.toList.drop L.length,rfl,hb,?_,?_,hm⟩
  ·unfold Blk
   rw[←ht,Nat.mul_one,List.take_append_drop]
   simpa using hg
  ·simp only[List.length_drop,Array.length_toList];omega
theorem Own.ofBlk{k:Nat→Value}{T:Nat}{w:World}{base g cap:Nat}{L:List Nat}{rest:List Value}(hb:base≤g)(h:Blk w g T (L.map k++rest))(hc:L.length+rest.length=cap)(hm:cap≤maxLen) :
 Own k T w base (sl g 0 L.length cap) L:=by
 refine⟨by simp,.inr ⟨g,cap,(L.map k++rest).toArray,rfl,hb,h,by omega,hm,by simp;omega,?_⟩⟩
 simp only[Nat.mul_one]
 rw[List.take_append_of_le_length (by simp),List.take_of_length_le (by simp)]
theorem Own.lt{k:Nat→Value}{T:Nat}{w:World}{base:Nat}{v:Value}{L:List Nat}(h:Own k T w base v L):∀b o n c,v=sl b o n c→base≤b∧b<w.heap.size:=by
 intro b o n c e
 exact World.ownsRow.lt h b (by rw[e];rfl)
theorem Own.slice{k:Nat→Value}{T:Nat}{w:World}{base:Nat}{v:Value}{L:List Nat}(h:Own k T w base v L):SliceK k w v L:=by
 rcases h.blk with⟨rfl,rfl⟩|⟨g,cap,rest,rfl,hb,hg,hc,hm⟩
 ·exact .inl ⟨rfl,rfl⟩
 ·refine .inr ⟨g,0,cap,rfl,by omega,fun i hi=>?_⟩
  rw[Nat.zero_add,hg.cell,List.getElem?_append_left (by simpa using hi),map_get hi]
theorem Own.mod{k:Nat→Value}{T:Nat}{w w':World}{base:Nat}{v:Value}{L:List Nat}{S:List Nat}(h:Own k T w base v L)(m:Mod S w w')(hS:∀x,x∈S→Apart v x):Own k T w' base v L:=by
 rcases h.blk with⟨rfl,rfl⟩|⟨g,cap,rest,rfl,hb,hg,hc,hm⟩
 ·exact⟨rfl,.inl ⟨rfl,rfl⟩⟩
 ·exact Own.ofBlk hb (hg.mod m (fun hx=>hS g hx _ _ _ _ rfl rfl)) hc hm
theorem Own.nil(k:Nat→Value)(T:Nat)(w:World)(base:Nat):Own k T w base (.slice none 0 0) []:=⟨rfl,.inl ⟨rfl,rfl⟩⟩
theorem wpl_push{ops:Array Oper}{rest:List Oper}{o:Oper}{a:Act}{Q:Exit→Act→World→Prop}{w:World}(hgd:o.guard=none)(s x:Operand)(t:TypeId)
 (ho:o.op=.call {callee:=.builtin .append,args:=#[s,x],argTypes:=#[t,t]}) (v:Value) (b cap:Nat) (hs:a.eval s=v) (hx:a.eval x=sl b 0 1 cap)
 (k:Nat→Value) {e B:Nat} {z:Value} (h1:z.cells=#[z]) (ht:Tryz.prog.underlying t=some (.slice e)) (hi:(Tryz.prog.info? e).map (fun i=>(i.zero,i.size,i.bytes))=some (some z,1,B)) (hB:B≤16) (hk:∀n,(k n).oneCell'=true)
 {w0:World} {L:List Nat} {u:Nat} (hw:Mod [] w0 w) (hv:Own k e w w0.heap.size v L) (hc:w.cell? ⟨b,0,none⟩=some (k u)) (hn:L.length<900000)
 (h:∀v' w',Own k e w' w0.heap.size v' (L++[u])→Mod [] w0 w'→wpList Tryz.prog ops Q rest (a.put o.dst v') w'):wpList Tryz.prog ops Q (o::rest) a w:=by
 obtain⟨v',w',hr,hown,hgr⟩:=run_app h1 ht hi hB w0.heap.size v L.length (L.map k) w hv ⟨b,0,none⟩ cap [k u] 1 rfl
  (by
    intro j y hj
    have hj0:j=0:=by
     have hl:=(List.getElem?_eq_some_iff.1 hj).1
     rw[List.length_singleton]at hl
     omega
    subst hj0
    simp at hj
    subst hj
    rw[add_addr]
    exact hc) (by intro y hy;simp at hy;rw[hy];exact hk u) (by omega) hw.size o.type
 refine wpl_run2 hgd s x t ho v _ hs hx hr (h v' w' ?_ ?_)
 ·unfold Own
  simpa using hown
 ·refine Mod.trans (U:=[]) hw (Mod.grown (S:=v.ownBlock.toList) hgr (by intro kk hk _;simp[hk])) (by simp) ?_
  intro y hy hlt
  simp at hy
  have:=(World.ownsRow.lt hv y hy).1
  omega
def valS:List Nat→Nat
 | []=>0
 |x::l=>x+65536*valS l
def Digits(L:List Nat):Prop:=∀i,nth L i<65536
theorem valS_append(a b:List Nat):valS (a++b)=valS a+65536^a.length*valS b:=by
 induction a with
 |nil=>simp[valS]
 |cons x l ih=>simp only[List.cons_append,valS,ih,List.length_cons,Nat.pow_succ,Nat.mul_add];rw[Nat.add_assoc,←Nat.mul_assoc,Nat.mul_comm 65536 (65536^l.length)]
theorem Digits.push{L:List Nat}(h:Digits L){u:Nat}(hu:u<65536):Digits (L++[u]):=by
 intro i
 rcases Nat.lt_or_ge i L.length with hi|hi
 ·rw[nth_append_left hi];exact h i
 ·rw[nth_append_right hi]
  rcases Nat.eq_zero_or_pos (i-L.length)with h0|h0
  ·rw[h0];exact hu
  ·rw[nth_ge (by rw[List.length_singleton];exact h0)];omega
structure Canon(L:List Nat):Prop where
 digits:Digits L
 top:L.length≠0→nth L (L.length-1)≠0
structure SmallAt(n m:Nat)(L:List Nat):Prop where
 digits:Digits L
 val:valS L+65536^L.length*m=n
 top:m=0→L.length≠0→nth L (L.length-1)≠0
theorem SmallAt.next{n m:Nat}{L:List Nat}(h:SmallAt n m L)(h0:m≠0):SmallAt n (m/65536) (L++[m%65536]):=by
 refine⟨h.digits.push (Nat.mod_lt _ (by omega)),?_,?_⟩
 ·have h1:=h.val
  have h2:=Nat.mod_add_div m 65536
  rw[valS_append,List.length_append,List.length_singleton,Nat.pow_succ]
  simp only[valS,Nat.mul_zero,Nat.add_zero]
  rw[Nat.add_assoc,Nat.mul_assoc,←Nat.mul_add,h2]
  exact h1
 ·intro hm _
  rw[List.length_append,List.length_singleton,Nat.add_sub_cancel,nth_append_right (Nat.le_refl _),Nat.sub_self]
  show m%65536≠0
  omega
set_option maxRecDepth 100000 in
theorem c_Small(n:Nat)(hn:n<2^62)(w:World):Calls Tryz.prog 31 #[i64 n] w fun e w'=>∃v L,e=.returned v∧Mod [] w w'∧Own i64 3 w' w.heap.size v L∧Canon L∧valS L=n:=by
 have hown0:Own i64 3 (w.alloc (.cells #[] 3)) w.heap.size (sl w.heap.size 0 0 0) []:=Own.ofBlk (rest:=[]) (Nat.le_refl _) (Blk.new w _ []) rfl (by simp[maxLen])
 have HN:=hide hn
 clear hn
 go_enter Tryz.func31,Tryz.ntmps31
 go_wp2_with fail
 go_loopw [0,3] (fun a v wr=>∃(m:Nat) (L:List Nat) (vv:Value),a=i64 m∧vv=v∧Mod [] w wr∧Own i64 3 wr w.heap.size vv L∧Hid (SmallAt n m L)) (fun a _ _=>(intOf a).toNat)
 case atStart=>exact⟨n,[],_,rfl,rfl,(Mod.refl _ _).alloc _,hown0,hide ⟨fun i=>by rw[nth_ge (by simp)];omega,by simp[valS],by simp⟩⟩
 case round=>
  obtain⟨m,L,vv,rfl,rfl,hm,hv,hS⟩:=hrel
  by_cases h0:m=0
  ·subst h0
   go_wp2_with fail
   go_ret
   have s1:=hS.out
   exact⟨vv,L,rfl,hm,hv,⟨s1.digits,s1.top rfl⟩,by have:=s1.val;simpa using this⟩
  ·have hpos:(0:Int)<(m:Int):=by omega
   have hS2:=hide (hS.out.next h0)
   have hlen:L.length<900000:=by
    have h1:=hS.out.val
    have h2:65536^L.length*1≤65536^L.length*m:=Nat.mul_le_mul_left _ (by omega)
    have h3:=HN.out
    rcases Nat.lt_or_ge L.length 4 with h4|h4
    ·omega
    ·have h5:65536^4≤65536^L.length:=Nat.pow_le_pow_right (by omega) h4
     omega
   have hlt:m/65536<m:=by omega
   have hma:Mod [] w (wr.alloc (.cells #[.int .i64 ((m:Int)%65536)] 3)):=hm.alloc _
   have hva:Own i64 3 (wr.alloc (.cells #[.int .i64 ((m:Int)%65536)] 3)) w.heap.size vv L:=hv.mod ((Mod.refl [] _).alloc _) (by simp)
   have hca:(wr.alloc (.cells #[.int .i64 ((m:Int)%65536)] 3)).cell? ⟨wr.heap.size,0,none⟩=some (i64 (m%65536)):=by
    have h:=Blk.new wr 3 [.int .i64 ((m:Int)%65536)]
    have h2:=blk_cell0 h
    rw[h2]
    simp[i64]
   have HLT:=hide hlt
   have hmn:m<2^62:=by
    have h1:=hS.out.val
    have h2:1*m≤65536^L.length*m:=Nat.mul_le_mul_right _ (Nat.pow_pos (by omega))
    have h3:=HN.out
    omega
   have ew:IntKind.i64.wrap ((m:Int)/65536)=((m/65536:Nat):Int):=by rw[IntKind.wrap_i64];omega
   clear hlt h0 hmn
   go_wp2_with (at_builtin;refine wpl_push rfl _ _ _ rfl vv wr.heap.size 1 rfl rfl i64 rfl Tryz.underlying25 info_int (by omega) (fun _=>rfl) hma hva hca hlen ?_)
   intro v' w' hv' hm'
   go_wp2_with fail
   go_roundw
   case rel=>exact⟨m/65536,_,v',by first|rfl|(simp[i64];done),rfl,hm',hv',hS2⟩
   case measure=>have:=HLT.out;simp[intOf];omega
end Go.Proofs.YtfgmnbmnpihjdaaGreatDoor
