/- Lemmas of mine for the walk and its plain laws: NatA NatB NatC WordsB NatD -/
import Derived.Test.YtfgmnbmnpihjdaaGreatDoorM01
set_option linter.all false
set_option maxHeartbeats 1600000
namespace Go.Proofs.YtfgmnbmnpihjdaaGreatDoor
open Go.RowKit
structure NatIs(w:World)(x p:Nat)(L R:List Nat):Prop where
 head:Blk w x 180 [sl p 0 L.length (L.length+R.length)]
 row:Blk w p 51 ((L++R).map u64)
 cap:L.length+R.length≤100000
theorem NatIs.cell{w:World}{x p:Nat}{L R:List Nat}(h:NatIs w x p L R):w.cell? ⟨x,0,none⟩=some (sl p 0 L.length (L.length+R.length)):=by
 rw[h.head.cell];rfl
theorem NatIs.ne{w:World}{x p:Nat}{L R:List Nat}(h:NatIs w x p L R):x≠p:=h.head.ne h.row (by decide)
theorem NatIs.xlt{w:World}{x p:Nat}{L R:List Nat}(h:NatIs w x p L R):x<w.heap.size:=h.head.lt
theorem NatIs.plt{w:World}{x p:Nat}{L R:List Nat}(h:NatIs w x p L R):p<w.heap.size:=h.row.lt
theorem NatIs.mod{w w':World}{x p:Nat}{L R S:List Nat}(h:NatIs w x p L R)(m:Mod S w w')(hx:x∉S)(hp:p∉S):NatIs w' x p L R:=
 ⟨h.head.mod m hx,h.row.mod m hp,h.cap⟩
theorem NatIs.drew{w:World}{x p:Nat}{L R:List Nat}(h:NatIs w x p L R):NatIs w.drew x p L R:=⟨h.head,h.row,h.cap⟩
theorem NatIs.drewN{w:World}{x p:Nat}{L R:List Nat}(h:NatIs w x p L R)(n:Nat):NatIs (w.drewN n) x p L R:=⟨h.head,h.row,h.cap⟩
theorem NatIs.at{w:World}{x p:Nat}{L R:List Nat}(h:NatIs w x p L R)(i:Nat)(hi:i<L.length):w.cell? ⟨p,i,none⟩=some (u64 (nth L i)):=by
 rw[h.row.at i (by simp;omega),nth_append_left hi]
theorem NatIs.put{w w':World}{x p:Nat}{L R L':List Nat}(h:NatIs w x p L R)(hl:L'.length=L.length)(hx:w'.heap[x]? = w.heap[x]?)
 (hr:Blk w' p 51 ((L'++R).map u64)):NatIs w' x p L' R:=by
 refine⟨?_,hr,by rw[hl];exact h.cap⟩
 unfold Blk
 rw[hx,hl]
 exact h.head
theorem zero_uint(w:World):(zeroValue 51).run Tryz.prog w=.ok (.int .u64 0) w:=by kernel_rfl
theorem info_uint:(Tryz.prog.info? 51).map (fun i=>(i.zero,i.size,i.bytes))=some (some (.int .u64 0),1,8):=by kernel_rfl
theorem size_uint:(Tryz.prog.info? 51).map (·.size)=some 1:=by kernel_rfl
theorem make_uint(n c:Nat)(hnc:n≤c)(hc:c≤17000000)(w:World) :
 (Instr.makeSlice 50 (.int .i64 n) (.int .i64 c)).run Tryz.prog w=.ok (sl w.heap.size 0 n c) (w.alloc (.cells ((List.replicate c 0).map u64).toArray 51)):=by
 rw[run_make_row (z:=.int .u64 0) rfl Tryz.underlying50 info_uint (by omega) n c hnc hc w]
 simp[u64]
set_option maxRecDepth 100000 in
theorem c_NewNat(w:World):Calls Tryz.prog 84 #[] w fun e w'=>
 ∃x p,e=.returned (ptr x)∧Mod [] w w'∧NatIs w' x p [] (List.replicate 32 0)∧w.heap.size≤x∧w.heap.size≤p:=by
 have hmk:=make_uint 0 32 (by omega) (by omega)
 generalize hrow:((List.replicate 32 0).map u64).toArray=row at hmk
 have Hrow:=hide hrow
 clear hrow
 have hmk0:∀w,(Instr.makeSlice 50 (.int .i64 0) (.int .i64 32)).run Tryz.prog w=.ok (sl w.heap.size 0 0 32) (w.alloc (.cells row 51)):=hmk
 clear hmk
 go_enter Tryz.func84,Tryz.ntmps84
 go_wp2
 go_ret
 refine⟨_,w.heap.size,rfl,((Mod.refl [] w).alloc _).alloc _,⟨?_,?_,by simp⟩,by simp,by simp⟩
 ·have:=Blk.new (w.alloc (.cells row 51)) 180 [sl w.heap.size 0 0 32]
  simpa using this
 ·rw[←Hrow.out]
  exact(Blk.new w _ _).alloc _
def Kept(w:World)(p p':Nat):Prop:=p'=p∨w.heap.size≤p'
theorem splice_zero(L R:List Nat)(n m:Nat)(hn:n≤m) :
 splice' ((L++R).map u64) (List.replicate m (.int .u64 0)) 0=((List.replicate n 0)++(List.replicate (m-n) 0++(L++R).drop m)).map u64:=by
 unfold splice'
 rw[←List.append_assoc,List.replicate_append_replicate]
 rw[show n+(m-n)=m by omega]
 simp[List.map_drop]
theorem clear_nat{w:World}{x p:Nat}{L R:List Nat}(h:NatIs w x p L R)(n m:Nat)(hnm:n≤m)(hm:m≤L.length+R.length) :
 ∃w1,(∀ty,(Builtin.clear_ #[50] ty #[sl p 0 m (L.length+R.length)]).run Tryz.prog w=.ok (.tuple #[]) w1)∧Mod [p] w w1 ∧
  Blk w1 x 180 [sl p 0 L.length (L.length+R.length)]∧Blk w1 p 51 ((List.replicate n 0++(List.replicate (m-n) 0++(L++R).drop m)).map u64):=by
 refine⟨_,fun ty=>run_clear_row (ty:=ty) (z:=.int .u64 0) rfl rfl Tryz.underlying50 zero_uint h.row 0 m (L.length+R.length) (by simp;omega),(Mod.refl _ w).setRow _ _ (by simp),
  h.head.setRow_other _ _ h.ne,?_⟩
 have:=h.row.splice (List.replicate m (.int .u64 0)) 0
 rwa [splice_zero L R n m hnm]at this ⊢
theorem blk_cell0{w:World}{b T:Nat}{v:Value}(h:Blk w b T [v]):w.cell? ⟨b,0,none⟩=some v:=by rw[h.cell];rfl
set_option maxRecDepth 100000 in
theorem c_reset(x p n:Nat)(L R:List Nat)(w:World)(h:NatIs w x p L R)(hn:n≤100000) :
 Calls Tryz.prog 130 #[ptr x,i64 n] w fun e w'=>
  ∃p' R',e=.returned (ptr x)∧Mod [x,p] w w'∧NatIs w' x p' (List.replicate n 0) R'∧Kept w p p':=by
 have hc:=h.cell
 have hf:=h.head.frozen 0
 have hlt:=h.xlt
 have hcap:=h.cap
 by_cases hlt:L.length+R.length<n
 ·have hmk:=make_uint n n (by omega) (by omega)
  generalize hrow:((List.replicate n 0).map u64).toArray=row at hmk
  have Hrow:=hide hrow
  clear hrow
  go_enter Tryz.func130,Tryz.ntmps130
  go_wp2
  go_ret
  refine⟨w.heap.size,[],rfl,((Mod.refl _ w).setCell _ _ (by simp)).alloc _,⟨?_,?_,by simp;omega⟩,.inr (by omega)⟩
  ·have:=(h.head.setCell 0 (sl w.heap.size 0 n n)).alloc (.cells row 51)
   simpa using this
  ·rw[←Hrow.out]
   have:=Blk.new (w.setCell ⟨x,0,none⟩ (sl w.heap.size 0 n n)) 51 ((List.replicate n 0).map u64)
   simpa using this
 ·obtain⟨m,hm⟩:∃m,m=max n L.length:=⟨_,rfl⟩
  obtain⟨w1,hcl,hm1,hx1,hp1⟩:=clear_nat h.drew n m (by omega) (by omega)
  have hc1:=blk_cell0 hx1
  have hf1:=hx1.frozen 0
  have hm1':Mod [p] w w1:=⟨hm1.os,hm1.tape,hm1.output,hm1.size,hm1.block⟩
  clear hm1
  have hfin:NatIs (w1.setCell ⟨x,0,none⟩ (sl p 0 n (L.length+R.length))) x p (List.replicate n 0) (List.replicate (m-n) 0++(L++R).drop m):=by
   refine⟨?_,hp1.setCell_other _ _ (by simpa using h.ne.symm),by simp;omega⟩
   have:=hx1.setCell 0 (sl p 0 n (L.length+R.length))
   have e:(List.replicate n 0).length+(List.replicate (m-n) 0++(L++R).drop m).length=L.length+R.length:=by simp;omega
   rw[e]
   simpa using this
  have hmod:Mod [x,p] w (w1.setCell ⟨x,0,none⟩ (sl p 0 n (L.length+R.length))):=
   (hm1'.mono (by simp)).setCell _ _ (by simp)
  rcases Nat.lt_or_ge n L.length with hnl|hnl
  ·obtain rfl:m=L.length:=by omega
   clear hm
   go_enter Tryz.func130,Tryz.ntmps130
   go_wp2
   go_region_with (fail)
   all_goals go_wp2
   all_goals go_ret
   all_goals exact⟨p,_,rfl,hmod,hfin,.inl rfl⟩
  ·obtain rfl:m=n:=by omega
   clear hm
   go_enter Tryz.func130,Tryz.ntmps130
   go_wp2
   go_region_with (fail)
   all_goals go_wp2
   all_goals go_ret
   all_goals exact⟨p,_,rfl,hmod,hfin,.inl rfl⟩
theorem take_copy(L R M:List Nat)(h:M.length=L.length):(((L++R).take 0++M++(L++R).drop (0+M.length)))=M++R:=by
 rw[Nat.zero_add,h,List.drop_left]
 simp
theorem copy_nat{w:World}{x p q:Nat}{L R M Q:List Nat}(h:NatIs w x p L R)(hq:Blk w q 51 ((M++Q).map u64))(hl:M.length=L.length)(c c':Nat)(ts:Nat) :
 ∃w1,(∀ty,(Builtin.copy_ #[50,ts] ty #[sl p 0 L.length c,sl q 0 M.length c']).run Tryz.prog w=.ok (goInt M.length) w1)∧Mod [p] w w1∧NatIs w1 x p M R:=by
 have hsrc:∀j v,(M.map u64)[j]? = some v→w.cell? ((⟨q,0,none⟩:Addr).add j)=some v:=by
  intro j v hj
  rw[add_addr,Nat.zero_add]
  have hjl:j<M.length:=by simpa using(List.getElem?_eq_some_iff.1 hj).1
  rw[map_get hjl]at hj
  rw[hq.at j (by simp;omega),nth_append_left hjl]
  exact hj
 have hrun:=fun ty=>run_copy_cells (P:=Tryz.prog) (ty:=ty) (t':=ts) Tryz.underlying50 size_uint h.row 0 L.length c ⟨q,0,none⟩ M.length c' (us:=M.map u64) (by simp[hl]) hsrc (by simp;omega)
  (oneCell_map u64 (fun _=>rfl) M)
 simp only[List.length_map]at hrun
 have hs:splice' ((L++R).map u64) (M.map u64) 0=(M++R).map u64:=by rw[splice_map,take_copy L R M hl]
 rw[hs]at hrun
 exact⟨_,hrun,(Mod.refl _ w).setRow _ _ (by simp),h.put hl (Go.setRow_other _ _ _ _ h.ne) (h.row.setRow _)⟩
set_option maxRecDepth 100000 in
theorem c_set(x p y q:Nat)(L R M Q:List Nat)(w:World)(h:NatIs w x p L R)(hy:NatIs w y q M Q)(h1:y≠x)(h2:y≠p)(h3:q≠x)(h4:q≠p) :
 Calls Tryz.prog 107 #[ptr x,ptr y] w fun e w'=>
  ∃p' R',e=.returned (ptr x)∧Mod [x,p] w w'∧NatIs w' x p' M R'∧Kept w p p':=by
 have hc:=hy.cell
 have hcap:=hy.cap
 go_enter Tryz.func107,Tryz.ntmps107
 go_wp2_with fail
 refine(c_reset x p M.length L R _ h (by omega)).mono ?_
 rintro e w1 ⟨p',R',rfl,hm1,hx1,hk1⟩
 have hy1:=hy.mod hm1 (by simp[h1,h2]) (by simp[h3,h4])
 have hq:q<w.heap.size:=hy.plt
 obtain⟨w2,hcp,hm2,hx2⟩:=copy_nat hx1.drew hy1.drew.row (by simp) ((List.replicate M.length 0).length+R'.length) (M.length+Q.length) 50
 have hc1:=hx1.cell
 have hc2:=hy1.cell
 simp only[List.length_replicate]at hcp hc1
 have hm3:Mod [x,p] w w2:=Mod.trans (U:=[x,p]) hm1 hm2.ofDrew (fun a ha _=>ha) (fun a ha hlt=>by
  rcases hk1 with hk|hk
  ·simp at ha;simp[ha,hk]
  ·simp at ha;omega)
 clear hm2 hm1
 go_wp2_with fail
 go_region_with (fail)
 all_goals go_wp2
 all_goals go_ret
 all_goals exact⟨p',R',rfl,hm3,hx2,hk1⟩
abbrev MHead(w:World)(m x:Nat)(odd:Bool)(k:Nat)(r:Value):Prop:=Blk w m 178 [ptr x,.bool odd,u64 k,r]
theorem MHead.c0{w:World}{m x k:Nat}{odd:Bool}{r:Value}(h:MHead w m x odd k r):w.cell? ⟨m,0,none⟩=some (ptr x):=by rw[Blk.cell h];rfl
theorem MHead.c1{w:World}{m x k:Nat}{odd:Bool}{r:Value}(h:MHead w m x odd k r):w.cell? ⟨m,1,none⟩=some (.bool odd):=by rw[Blk.cell h];rfl
theorem MHead.c2{w:World}{m x k:Nat}{odd:Bool}{r:Value}(h:MHead w m x odd k r):w.cell? ⟨m,2,none⟩=some (u64 k):=by rw[Blk.cell h];rfl
theorem MHead.c3{w:World}{m x k:Nat}{odd:Bool}{r:Value}(h:MHead w m x odd k r):w.cell? ⟨m,3,none⟩=some r:=by rw[Blk.cell h];rfl
def padTo(L:List Nat)(n:Nat):List Nat:=L++List.replicate (n-L.length) 0
theorem padTo_length{L:List Nat}{n:Nat}(h:L.length≤n):(padTo L n).length=n:=by simp[padTo];omega
theorem padTo_val(L:List Nat)(n:Nat):val (padTo L n)=val L:=by simp[padTo,val_append,val_replicate0]
theorem padTo_words{L:List Nat}(h:Words L)(n:Nat):Words (padTo L n):=h.append (Words.replicate0 _)
theorem padTo_nil(n:Nat):padTo [] n=List.replicate n 0:=by simp[padTo]
theorem clear_tail{w:World}{x p:Nat}{L R:List Nat}(h:NatIs w x p L R)(n:Nat)(h2:n≤L.length+R.length)(c:Nat) :
 ∃w1,(∀ty,(Builtin.clear_ #[50] ty #[sl p L.length (n-L.length) c]).run Tryz.prog w=.ok (.tuple #[]) w1)∧Mod [p] w w1 ∧
  Blk w1 x 180 [sl p 0 L.length (L.length+R.length)]∧Blk w1 p 51 ((padTo L n++R.drop (n-L.length)).map u64):=by
 have hs:splice' ((L++R).map u64) (List.replicate (n-L.length) (.int .u64 0)) L.length=(padTo L n++R.drop (n-L.length)).map u64:=by
  have e:List.replicate (n-L.length) (Value.int .u64 0)=(List.replicate (n-L.length) 0).map u64:=by simp[u64]
  rw[e,splice_map]
  congr 1
  rw[List.take_left' rfl,List.length_replicate,List.drop_append]
  simp[padTo]
 refine⟨_,fun ty=>run_clear_row (ty:=ty) (z:=.int .u64 0) rfl rfl Tryz.underlying50 zero_uint h.row L.length (n-L.length) c (by simp;omega),(Mod.refl _ w).setRow _ _ (by simp),
  h.head.setRow_other _ _ h.ne,?_⟩
 rw[hs]
 exact h.row.setRow _
theorem clear_none{w:World}(a:Option Addr)(c:Nat)(ty:Nat):(Builtin.clear_ #[50] ty #[.slice a 0 c]).run Tryz.prog w=.ok (.tuple #[]) w:=by
 cases a<;>simp[Builtin.clear_,run_underlying Tryz.underlying50]
theorem NatIs.reslice{w:World}{x p:Nat}{L R:List Nat}(hx:Blk w x 180 [sl p 0 L.length (L.length+R.length)]){L' R':List Nat}{p':Nat}
 (hp:Blk w p' 51 ((L'++R').map u64)) (hne:p'≠x) {c:Nat} (hc:c=L'.length+R'.length) (hcap:c≤100000) {n:Nat} (hn:n=L'.length) :
 NatIs (w.setCell ⟨x,0,none⟩ (sl p' 0 n c)) x p' L' R':=by
 subst hc hn
 refine⟨?_,hp.setCell_other _ _ hne,hcap⟩
 have:=hx.setCell 0 (sl p' 0 L'.length (L'.length+R'.length))
 simpa using this
set_option maxRecDepth 100000 in
theorem c_expand_room(x p n:Nat)(L R:List Nat)(w:World)(h:NatIs w x p L R)(h1:L.length≤n)(h2:n≤L.length+R.length)(hr:0<R.length) :
 Calls Tryz.prog 127 #[ptr x,i64 n] w fun e w'=>
  ∃p' R',e=.returned (ptr x)∧Mod [x,p] w w'∧NatIs w' x p' (padTo L n) R'∧Kept w p p':=by
 have hc:=h.cell
 have hcap:=h.cap
 have g1:¬L.length+R.length=L.length:=by omega
 go_enter Tryz.func127,Tryz.ntmps127
 go_wp2_with fail
 go_quiet (fail)
 obtain⟨w1,hcl,hm1,hx1,hp1⟩:=clear_tail (h.drewN nq) n h2 (L.length+R.length-L.length)
 have hc1:=blk_cell0 hx1
 have hf1:=hx1.frozen 0
 have hfin:=NatIs.reslice hx1 hp1 h.ne.symm (c:=L.length+R.length) (by rw[padTo_length h1];simp;omega) hcap (n:=n) (padTo_length h1).symm
 have hmod:Mod [x,p] w (w1.setCell ⟨x,0,none⟩ (sl p 0 n (L.length+R.length))):=(hm1.ofDrewN.mono (by simp)).setCell _ _ (by simp)
 clear hm1
 rw[show L.length+R.length-L.length=R.length by omega]at hcl
 go_wp2_with fail
 go_ret
 exact⟨p,_,rfl,hmod,hfin,.inl rfl⟩
set_option maxRecDepth 100000 in
theorem c_expand_full(x p:Nat)(L:List Nat)(w:World)(h:NatIs w x p L []) :
 Calls Tryz.prog 127 #[ptr x,i64 L.length] w fun e w'=>
  ∃p' R',e=.returned (ptr x)∧Mod [x,p] w w'∧NatIs w' x p' (padTo L L.length) R'∧Kept w p p':=by
 have hc:=h.cell
 have hcap:=h.cap
 have hf:=h.head.frozen 0
 have hcl:=fun (w:World) (a:Option Addr) (c ty:Nat)=>clear_none (w:=w) a c ty
 have hfin:NatIs (w.setCell ⟨x,0,none⟩ (sl p 0 L.length L.length)) x p (padTo L L.length) []:=by
  have:=NatIs.reslice (L':=padTo L L.length) (R':=[]) (c:=L.length) (n:=L.length) h.head (by simpa [padTo]using h.row) h.ne.symm (by simp[padTo]) (by simpa using hcap) (by simp[padTo])
  exact this
 simp only[List.length_nil,Nat.add_zero]at hc hcap
 have hmod:Mod [x,p] w (w.setCell ⟨x,0,none⟩ (sl p 0 L.length L.length)):=(Mod.refl _ w).setCell _ _ (by simp)
 go_enter Tryz.func127,Tryz.ntmps127
 go_wp2_with fail
 go_quiet (fail)
 go_wp2_with fail
 go_ret
 exact⟨p,_,rfl,hmod.drewN _,hfin.drewN _,.inl rfl⟩
theorem copy_rows{w:World}{b q:Nat}{V M Q:List Nat}(hb:Blk w b 51 (V.map u64))(hq:Blk w q 51 ((M++Q).map u64))(hl:M.length≤V.length)(dc c':Nat)(ts:Nat) :
 ∃w1,(∀ty,(Builtin.copy_ #[50,ts] ty #[sl b 0 V.length dc,sl q 0 M.length c']).run Tryz.prog w=.ok (goInt M.length) w1)∧Mod [b] w w1∧Blk w1 b 51 ((M++V.drop M.length).map u64):=by
 have hsrc:∀j v,(M.map u64)[j]? = some v→w.cell? ((⟨q,0,none⟩:Addr).add j)=some v:=by
  intro j v hj
  rw[add_addr,Nat.zero_add]
  have hjl:j<M.length:=by simpa using(List.getElem?_eq_some_iff.1 hj).1
  rw[map_get hjl]at hj
  rw[hq.at j (by simp;omega),nth_append_left hjl]
  exact hj
 have hrun:=fun ty=>run_copy_cells (P:=Tryz.prog) (ty:=ty) (t':=ts) Tryz.underlying50 size_uint hb 0 V.length dc ⟨q,0,none⟩ M.length c' (us:=M.map u64) (by rw[List.length_map];exact(Nat.min_eq_left hl).symm) hsrc (by simp;omega)
  (oneCell_map u64 (fun _=>rfl) M)
 simp only[List.length_map]at hrun
 have hs:splice' (V.map u64) (M.map u64) 0=(M++V.drop M.length).map u64:=by rw[splice_map];simp
 rw[hs]at hrun
 exact⟨_,hrun,(Mod.refl _ w).setRow _ _ (by simp),hb.setRow _⟩
set_option maxRecDepth 100000 in
theorem c_expand_grow(x p n:Nat)(L R:List Nat)(w:World)(h:NatIs w x p L R)(h2:L.length+R.length<n)(hn:n≤100000) :
 Calls Tryz.prog 127 #[ptr x,i64 n] w fun e w'=>
  ∃p' R',e=.returned (ptr x)∧Mod [x,p] w w'∧NatIs w' x p' (padTo L n) R'∧Kept w p p':=by
 have hc:=h.cell
 have hcap:=h.cap
 have hf:=h.head.frozen 0
 have hxlt:=h.xlt
 have hmk:=make_uint n n (by omega) (by omega)
 generalize hrow:((List.replicate n 0).map u64).toArray=row at hmk
 have hnew:Blk (w.alloc (.cells row 51)) w.heap.size 51 ((List.replicate n 0).map u64):=by rw[←hrow];exact Blk.new w _ _
 obtain⟨w1,hcp,hm1,hp1⟩:=copy_rows hnew (h.row.alloc _) (by simp;omega) n (L.length+R.length) 50
 rw[List.length_replicate]at hcp
 have hx1:Blk w1 x 180 [sl p 0 L.length (L.length+R.length)]:=(h.head.alloc _).mod hm1 (by simp;omega)
 have hc1:=blk_cell0 hx1
 have hf1:=hx1.frozen 0
 have hp2:Blk w1 w.heap.size 51 ((padTo L n++[]).map u64):=by
  have e:L++(List.replicate n 0).drop L.length=padTo L n++[]:=by simp[padTo]
  rwa [e]at hp1
 have hm2:Mod [x,p] w (w1.setCell ⟨x,0,none⟩ (sl w.heap.size 0 n n)):=
  ((((Mod.refl [] w).alloc _).trans (U:=[x,p]) hm1 (by simp) (by simp))).setCell _ _ (by simp)
 have hfin:=NatIs.reslice hx1 hp2 (by omega) (R':=[]) (L':=padTo L n) (c:=n) (by rw[padTo_length (by omega)];simp) hn (n:=n) (padTo_length (by omega)).symm
 clear hm1 hrow
 go_enter Tryz.func127,Tryz.ntmps127
 go_wp2_with fail
 go_ret
 exact⟨_,_,rfl,hm2,hfin,.inr (by omega)⟩
theorem c_expand(x p n:Nat)(L R:List Nat)(w:World)(h:NatIs w x p L R)(h1:L.length≤n)(hn:n≤100000) :
 Calls Tryz.prog 127 #[ptr x,i64 n] w fun e w'=>
  ∃p' R',e=.returned (ptr x)∧Mod [x,p] w w'∧NatIs w' x p' (padTo L n) R'∧Kept w p p':=by
 rcases Nat.lt_or_ge (L.length+R.length) n with hlt|hge
 ·exact c_expand_grow x p n L R w h hlt hn
 ·rcases Nat.eq_zero_or_pos R.length with h0|hpos
  ·obtain rfl:=List.eq_nil_of_length_eq_zero h0
   obtain rfl:n=L.length:=by simp at hge;omega
   exact c_expand_full x p L w h
  ·exact c_expand_room x p n L R w h h1 hge hpos
set_option maxRecDepth 100000 in
theorem c_ExpandFor(x p m y q k:Nat)(odd:Bool)(r:Value)(L R M Q:List Nat)(w:World)(h:NatIs w x p L R)(hm:MHead w m y odd k r)(hy:NatIs w y q M Q)(h1:L.length≤M.length) :
 Calls Tryz.prog 93 #[ptr x,ptr m] w fun e w'=>
  ∃p' R',e=.returned (ptr x)∧Mod [x,p] w w'∧NatIs w' x p' (padTo L M.length) R'∧Kept w p p':=by
 have hc:=hm.c0
 have hc2:=hy.cell
 have hcap:=hy.cap
 go_enter Tryz.func93,Tryz.ntmps93
 go_wp2_with fail
 refine(c_expand x p M.length L R _ h h1 (by omega)).mono ?_
 rintro e w1 ⟨p',R',rfl,hm1,hx1,hk1⟩
 go_wp2_with fail
 go_ret
 exact⟨p',R',rfl,hm1,hx1,hk1⟩
def allZ(L:List Nat):Nat→Nat
 |0=>1
 |k+1=>min (allZ L k) (eqB (nth L k) 0)
theorem allZ_le(L:List Nat)(k:Nat):allZ L k≤1:=by
 induction k with
 |zero=>simp[allZ]
 |succ k ih=>simp only[allZ];omega
theorem eqB_ne{a b:Nat}(h:a≠b):eqB a b=0:=if_neg h
theorem eqB_min0{a b p:Nat}(hp:0<p):min (eqB a 0) (eqB b 0)=eqB (a+p*b) 0:=by
 by_cases h1:a=0
 ·by_cases h2:b=0
  ·subst h1 h2;simp[eqB]
  ·have:=Nat.mul_pos hp (Nat.pos_of_ne_zero h2)
   rw[eqB_ne h2,eqB_ne (show a+p*b≠0 by omega)];omega
 ·rw[eqB_ne h1,eqB_ne (show a+p*b≠0 by omega)];omega
theorem eqB_min1{a b p:Nat}(hp:1<p):min (eqB a 1) (eqB b 0)=eqB (a+p*b) 1:=by
 by_cases h2:b=0
 ·subst h2;simp[eqB];split<;>omega
 ·have:=Nat.mul_le_mul_left p (show 1≤b by omega)
  rw[eqB_ne h2,eqB_ne (show a+p*b≠1 by omega)];omega
theorem allZ_eq{L:List Nat}:∀k,k≤L.length→allZ L k=eqB (val (L.take k)) 0:=by
 intro k
 induction k with
 |zero=>intro _;rfl
 |succ k ih=>
  intro hk
  rw[val_take_succ (by omega),allZ,ih (by omega)]
  exact eqB_min0 (Nat.pow_pos W_pos)
def oneZ(L:List Nat):Nat→Nat
 |0=>eqB (nth L 0) 1
 |k+1=>min (oneZ L k) (eqB (nth L (k+1)) 0)
theorem oneZ_le(L:List Nat)(k:Nat):oneZ L k≤1:=by
 induction k with
 |zero=>simp only[oneZ];exact eqB_le _ _
 |succ k ih=>simp only[oneZ];omega
theorem oneZ_eq{L:List Nat}:∀k,k<L.length→oneZ L k=eqB (val (L.take (k+1))) 1:=by
 intro k
 induction k with
 |zero=>
  intro hk
  rw[val_take_succ hk]
  simp[oneZ,val]
 |succ k ih=>
  intro hk
  rw[val_take_succ (by omega),oneZ,ih (by omega)]
  have hp:1<W^(k+1):=by
   have:W^1≤W^(k+1):=Nat.pow_le_pow_right W_pos (by omega)
   rw[Nat.pow_one]at this
   have:=W_eq
   omega
  exact eqB_min1 hp
def trimN(L:List Nat):Nat→Nat
 |0=>0
 |k+1=>if nth L k=0 then trimN L k else k+1
theorem trimN_le(L:List Nat)(k:Nat):trimN L k≤k:=by
 induction k with
 |zero=>simp[trimN]
 |succ k ih=>simp only[trimN];split<;>omega
theorem trimN_val{L:List Nat}:∀k,k≤L.length→val (L.take (trimN L k))=val (L.take k):=by
 intro k
 induction k with
 |zero=>intro _;rfl
 |succ k ih=>
  intro hk
  simp only[trimN]
  split
  ·rename_i h
   rw[ih (by omega),val_take_succ (by omega),h]
   omega
  ·rfl
theorem trimN_top{L:List Nat}:∀k,trimN L k≠0→nth L (trimN L k-1)≠0:=by
 intro k
 induction k with
 |zero=>intro h;exact absurd rfl h
 |succ k ih=>
  simp only[trimN]
  split
  ·exact ih
  ·rename_i h
   intro _
   simpa using h
def rowBits(L:List Nat):Nat→Nat
 |0=>0
 |k+1=>if nth L k=0 then rowBits L k else k*64+blen (nth L k)
theorem lt_two_blen(n:Nat):n<2^blen n:=by
 unfold blen
 split
 ·rename_i h;subst h;simp
 ·rename_i h
  exact(Nat.log2_lt h).1 (Nat.lt_succ_self _)
theorem two_blen_le{n:Nat}(h:n≠0):2^(blen n-1)≤n:=by
 unfold blen
 rw[if_neg h]
 exact(Nat.le_log2 h (k:=Nat.log2 n)).1 (Nat.le_refl _)
theorem blen_unique{n k:Nat}(h0:n≠0)(h1:2^k≤n)(h2:n<2^(k+1)):blen n=k+1:=by
 unfold blen
 rw[if_neg h0]
 have a:=(Nat.le_log2 h0).2 h1
 have b:=(Nat.log2_lt h0).2 h2
 omega
theorem W_two:W=2^64:=by rw[W_eq]
theorem W_pow(k:Nat):W^k=2^(64*k):=by rw[W_two,←Nat.pow_mul]
theorem blen_add{a b k:Nat}(ha:a<2^k)(hb:b≠0):blen (a+2^k*b)=k+blen b:=by
 have h1:=two_blen_le hb
 have h2:=lt_two_blen b
 have hb1:1≤blen b:=by unfold blen;rw[if_neg hb];omega
 have e:k+blen b=(k+(blen b-1))+1:=by omega
 rw[e]
 have hp:0<2^k:=Nat.pow_pos (by omega)
 have hbp:2^k*1≤2^k*b:=Nat.mul_le_mul_left _ (by omega)
 refine blen_unique (by omega) ?_ ?_
 ·rw[Nat.pow_add]
  have:=Nat.mul_le_mul_left (2^k) h1
  omega
 ·rw[show k+(blen b-1)+1=k+blen b by omega,Nat.pow_add]
  have:=Nat.mul_le_mul_left (2^k) (show b+1≤2^blen b from h2)
  rw[Nat.mul_add]at this
  omega
theorem rowBits_eq{L:List Nat}(h:Words L):∀k,k≤L.length→rowBits L k=blen (val (L.take k)):=by
 intro k
 induction k with
 |zero=>intro _;rfl
 |succ k ih=>
  intro hk
  rw[val_take_succ (by omega)]
  simp only[rowBits]
  split
  ·rename_i h0
   rw[h0,ih (by omega)]
   simp
  ·rename_i h0
   have hl:val (L.take k)<W^k:=by
    have:=val_lt (h.take k)
    simpa [Nat.min_eq_left (show k≤L.length by omega)]using this
   rw[W_pow]at hl ⊢
   rw[blen_add hl h0]
   omega
def addC(X Y:List Nat):Nat→Nat
 |0=>0
 |i+1=>addHi (nth X i) (nth Y i) (addC X Y i)
def addL(X Y:List Nat):Nat→List Nat
 |0=>X
 |i+1=>(addL X Y i).set i (addLo (nth X i) (nth Y i) (addC X Y i))
def subC(X Y:List Nat):Nat→Nat
 |0=>0
 |i+1=>subHi (nth X i) (nth Y i) (subC X Y i)
def subL(X Y:List Nat):Nat→List Nat
 |0=>X
 |i+1=>(subL X Y i).set i (subLo (nth X i) (nth Y i) (subC X Y i))
theorem addL_length(X Y:List Nat)(i:Nat):(addL X Y i).length=X.length:=by
 induction i with
 |zero=>rfl
 |succ i ih=>simp[addL,ih]
theorem subL_length(X Y:List Nat)(i:Nat):(subL X Y i).length=X.length:=by
 induction i with
 |zero=>rfl
 |succ i ih=>simp[subL,ih]
theorem addC_le{X Y:List Nat}(hX:Words X)(hY:Words Y)(i:Nat):addC X Y i≤1:=by
 induction i with
 |zero=>simp[addC]
 |succ i ih=>exact addHi_le (hX.nth i) (hY.nth i) ih
theorem subC_le(X Y:List Nat)(i:Nat):subC X Y i≤1:=by
 cases i with
 |zero=>simp[subC]
 |succ i=>exact subHi_le _ _ _
theorem addL_words{X Y:List Nat}(hX:Words X)(i:Nat):Words (addL X Y i):=by
 induction i with
 |zero=>exact hX
 |succ i ih=>exact ih.set _ (addLo_lt _ _ _)
theorem subL_words{X Y:List Nat}(hX:Words X)(i:Nat):Words (subL X Y i):=by
 induction i with
 |zero=>exact hX
 |succ i ih=>exact ih.set _ (subLo_lt _ _ _)
theorem addL_at(X Y:List Nat){i j:Nat}(h:i≤j):nth (addL X Y i) j=nth X j:=by
 induction i with
 |zero=>rfl
 |succ i ih=>simp only[addL];rw[nth_set_ne (by omega),ih (by omega)]
theorem subL_at(X Y:List Nat){i j:Nat}(h:i≤j):nth (subL X Y i) j=nth X j:=by
 induction i with
 |zero=>rfl
 |succ i ih=>simp only[subL];rw[nth_set_ne (by omega),ih (by omega)]
theorem take_set_ge{L:List Nat}{i k v:Nat}(h:k≤i):(L.set i v).take k=L.take k:=by
 rw[List.take_set_of_le h]
theorem take_succ_set{L:List Nat}{i v:Nat}(h:i<L.length):val ((L.set i v).take (i+1))=val (L.take i)+W^i*v:=by
 rw[val_take_succ (by simpa using h),take_set_ge (Nat.le_refl _),nth_set_same h]
theorem addL_val{X Y:List Nat}:∀i,i≤X.length→i≤Y.length →
 val ((addL X Y i).take i)+W^i*addC X Y i=val (X.take i)+val (Y.take i):=by
 intro i
 induction i with
 |zero=>intro _ _;simp[addC,val]
 |succ i ih=>
  intro h1 h2
  have:=ih (by omega) (by omega)
  simp only[addL,addC]
  rw[take_succ_set (by rw[addL_length];omega),val_take_succ (by omega),val_take_succ (by omega)]
  have e:=add_eq (nth X i) (nth Y i) (addC X Y i)
  have e2:W^i*addLo (nth X i) (nth Y i) (addC X Y i)+W^(i+1)*addHi (nth X i) (nth Y i) (addC X Y i)=W^i*nth X i+W^i*nth Y i+W^i*addC X Y i:=by
   rw[Nat.pow_succ,Nat.mul_assoc,←Nat.mul_add,e]
   simp only[Nat.mul_add]
  omega
theorem subL_val{X Y:List Nat}(hX:Words X)(hY:Words Y):∀i,i≤X.length→i≤Y.length →
 val ((subL X Y i).take i)+val (Y.take i)=val (X.take i)+W^i*subC X Y i:=by
 intro i
 induction i with
 |zero=>intro _ _;simp[subC,val]
 |succ i ih=>
  intro h1 h2
  have:=ih (by omega) (by omega)
  simp only[subL,subC]
  rw[take_succ_set (by rw[subL_length];omega),val_take_succ (by omega),val_take_succ (by omega)]
  have e:=sub_eq (hX.nth i) (hY.nth i) (subC_le X Y i)
  have e2:W^i*subLo (nth X i) (nth Y i) (subC X Y i)+W^i*nth Y i+W^i*subC X Y i=W^i*nth X i+W^(i+1)*subHi (nth X i) (nth Y i) (subC X Y i):=by
   rw[Nat.pow_succ,Nat.mul_assoc,←Nat.mul_add,←Nat.mul_add,←Nat.mul_add,e]
  omega
theorem add_whole{X Y:List Nat}(h:Y.length=X.length):val (addL X Y X.length)+W^X.length*addC X Y X.length=val X+val Y:=by
 have:=addL_val (X:=X) (Y:=Y) X.length (Nat.le_refl _) (by omega)
 have h1:(addL X Y X.length).take X.length=addL X Y X.length:=List.take_of_length_le (by rw[addL_length];omega)
 have h2:X.take X.length=X:=List.take_length
 have h3:Y.take X.length=Y:=by rw[←h];exact List.take_length
 rwa [h1,h2,h3]at this
theorem sub_whole{X Y:List Nat}(hX:Words X)(hY:Words Y)(h:Y.length=X.length):val (subL X Y X.length)+val Y=val X+W^X.length*subC X Y X.length:=by
 have:=subL_val hX hY X.length (Nat.le_refl _) (by omega)
 have h1:(subL X Y X.length).take X.length=subL X Y X.length:=List.take_of_length_le (by rw[subL_length];omega)
 have h2:X.take X.length=X:=List.take_length
 have h3:Y.take X.length=Y:=by rw[←h];exact List.take_length
 rwa [h1,h2,h3]at this
theorem subC_whole{X Y:List Nat}(hX:Words X)(hY:Words Y)(h:Y.length=X.length):subC X Y X.length=if val X<val Y then 1 else 0:=by
 have e:=sub_whole hX hY h
 have h1:=val_lt (subL_words (Y:=Y) hX X.length)
 rw[subL_length]at h1
 have h2:=val_lt hX
 have h3:=val_lt hY
 have hc:=subC_le X Y X.length
 rw[h]at h3
 have:subC X Y X.length=0∨subC X Y X.length=1:=by omega
 rcases this with h0|h0
 ·rw[h0]at e ⊢
  rw[if_neg (by omega)]
 ·rw[h0]at e ⊢
  rw[if_pos (by omega)]
def selL(on:Nat)(X Y:List Nat):Nat→List Nat
 |0=>X
 |i+1=>(selL on X Y i).set i (if on=0 then nth X i else nth Y i)
theorem selL_length(on:Nat)(X Y:List Nat)(i:Nat):(selL on X Y i).length=X.length:=by
 induction i with
 |zero=>rfl
 |succ i ih=>simp[selL,ih]
theorem selL_at(on:Nat)(X Y:List Nat){i j:Nat}(h:i≤j):nth (selL on X Y i) j=nth X j:=by
 induction i with
 |zero=>rfl
 |succ i ih=>simp only[selL];rw[nth_set_ne (by omega),ih (by omega)]
theorem nth_ext{A B:List Nat}(hl:A.length=B.length)(h:∀i,i<A.length→nth A i=nth B i):A=B:=by
 refine List.ext_getElem hl fun i h1 h2=>?_
 have:=h i h1
 rwa [nth_eq _ _ h1,nth_eq _ _ h2]at this
theorem selL_lt(on:Nat)(X Y:List Nat){i j:Nat}(h:j<i)(hj:j<X.length):nth (selL on X Y i) j=if on=0 then nth X j else nth Y j:=by
 induction i with
 |zero=>omega
 |succ i ih=>
  simp only[selL]
  by_cases hij:i=j
  ·subst hij
   rw[nth_set_same (by rw[selL_length];exact hj)]
  ·rw[nth_set_ne hij,ih (by omega)]
theorem selL_whole(on:Nat){X Y:List Nat}(h:Y.length=X.length):selL on X Y X.length=if on=0 then X else Y:=by
 split
 ·refine nth_ext (selL_length _ _ _ _) fun i hi=>?_
  rw[selL_length]at hi
  rw[selL_lt _ _ _ hi hi,if_pos (by assumption)]
 ·refine nth_ext ((selL_length _ _ _ _).trans h.symm) fun i hi=>?_
  rw[selL_length]at hi
  rw[selL_lt _ _ _ hi hi,if_neg (by assumption)]
theorem and_one_word{n:Nat}(h:n<W):bits .and .u64 (n:Int) 1=((n%2:Nat):Int):=by
 have hb:=bits_and_u64_nat n 1 (by rw[W_eq]at h;exact h) (by omega)
 rw[Nat.and_one_is_mod]at hb
 exact hb
set_option maxRecDepth 100000 in
theorem c_IsOdd(x p:Nat)(L R:List Nat)(w:World)(h:NatIs w x p L R)(hL:Words L) :
 Calls Tryz.prog 80 #[ptr x] w fun e w'=>e=.returned (u64 (val L%2))∧w=w':=by
 have hc:=h.cell
 have hcap:=h.cap
 by_cases h0:L.length=0
 ·have hl:=List.eq_nil_of_length_eq_zero h0
  subst hl
  simp only[List.length_nil,Nat.zero_add]at hc
  clear h0
  go_enter Tryz.func80,Tryz.ntmps80
  go_wp2_with fail
  go_ret
  exact⟨rfl,rfl⟩
 ·have h1:=h.at 0 (by omega)
  have ha:=and_one_word (hL.nth 0)
  have hne:((L.length:Int) == 0)=false:=by simpa using h0
  have hpos:0<L.length:=by omega
  have hv:nth L 0%2=val L%2:=by
   cases L with
   |nil=>simp at hpos
   |cons a l=>simp only[nth,val,List.getD_cons_zero];rw[W_eq];omega
  have H:=hide hv
  clear hv h0
  go_enter Tryz.func80,Tryz.ntmps80
  go_wp2_with fail
  go_ret
  exact⟨ret_u64 H.out,rfl⟩
set_option maxRecDepth 100000 in
theorem c_IsZero(x p:Nat)(L R:List Nat)(w:World)(h:NatIs w x p L R) :
 Calls Tryz.prog 132 #[ptr x] w fun e w'=>e=.returned (u64 (eqB (val L) 0))∧w=w':=by
 have hc:=h.cell
 have hcap:=h.cap
 have hfin:Hid (allZ L L.length=eqB (val L) 0):=hide (by rw[allZ_eq _ (Nat.le_refl _),List.take_length])
 go_enter Tryz.func132,Tryz.ntmps132
 go_wp2_with fail
 go_loop [5,6] (fun z i=>∃k:Nat,k≤L.length∧i=i64 k∧z=u64 (allZ L k)) (fun _ i=>L.length-(intOf i).toNat)
 case atStart=>exact⟨0,Nat.zero_le _,rfl,rfl⟩
 case round=>
  obtain⟨k,hk,rfl,rfl⟩:=hrel
  by_cases hlt:k<L.length
  ·have h1:=h.at k hlt
   have ha:=and_bit (allZ_le L k) (eqB_le (nth L k) 0)
   have hs:Hid (allZ L (k+1)=min (allZ L k) (eqB (nth L k) 0)):=hide rfl
   go_wp2_with fail
   refine(c_ctEq (nth L k) 0 _).mono ?_;rintro e w' ⟨rfl,rfl⟩
   go_wp2_with fail
   go_round
   case rel=>exact⟨k+1,by omega,by go_num,by rw[hs.out]⟩
   case measure=>simp[intOf];omega
  ·obtain rfl:k=L.length:=by omega
   go_wp2_with fail
   go_ret
   exact⟨ret_u64 hfin.out,rfl⟩
set_option maxRecDepth 100000 in
theorem c_IsOne(x p:Nat)(L R:List Nat)(w:World)(h:NatIs w x p L R) :
 Calls Tryz.prog 133 #[ptr x] w fun e w'=>e=.returned (u64 (eqB (val L) 1))∧w=w':=by
 have hc:=h.cell
 have hcap:=h.cap
 by_cases h0:L.length=0
 ·have hl:=List.eq_nil_of_length_eq_zero h0
  subst hl
  simp only[List.length_nil,Nat.zero_add]at hc
  clear h0
  go_enter Tryz.func133,Tryz.ntmps133
  go_wp2_with fail
  go_ret
  exact⟨rfl,rfl⟩
 ·have h1:=h.at 0 (by omega)
  have hne:((L.length:Int) == 0)=false:=by simpa using h0
  have hpos:0<L.length:=by omega
  have hfin:Hid (oneZ L (L.length-1)=eqB (val L) 1):=hide (by rw[oneZ_eq _ (by omega),show L.length-1+1=L.length by omega,List.take_length])
  have hst:Hid (oneZ L 0=eqB (nth L 0) 1):=hide rfl
  clear h0
  go_enter Tryz.func133,Tryz.ntmps133
  go_wp2_with fail
  refine(c_ctEq (nth L 0) 1 _).mono ?_;rintro e w' ⟨rfl,rfl⟩
  go_wp2_with fail
  go_loop [5,6] (fun z i=>∃k:Nat,k<L.length∧i=.int .i64 ((k:Int)+1)∧z=u64 (oneZ L k)) (fun _ i=>L.length-(intOf i).toNat)
  case atStart=>exact⟨0,hpos,rfl,by rw[hst.out]⟩
  case round=>
   obtain⟨k,hk,rfl,rfl⟩:=hrel
   by_cases hlt:k+1<L.length
   ·have h1:=h.at (k+1) hlt
    have ha:=and_bit (oneZ_le L k) (eqB_le (nth L (k+1)) 0)
    have hs:Hid (oneZ L (k+1)=min (oneZ L k) (eqB (nth L (k+1)) 0)):=hide rfl
    go_wp2_with fail
    refine(c_ctEq (nth L (k+1)) 0 _).mono ?_;rintro e w' ⟨rfl,rfl⟩
    go_wp2_with fail
    go_round
    case rel=>exact⟨k+1,by omega,by go_num,by rw[hs.out]⟩
    case measure=>simp[intOf];omega
   ·obtain hk1:L.length-1=k:=by omega
    have hf2:Hid (oneZ L k=eqB (val L) 1):=hide (by rw[←hk1];exact hfin.out)
    clear hk1
    go_wp2_with fail
    go_ret
    exact⟨ret_u64 hf2.out,rfl⟩
set_option maxRecDepth 100000 in
theorem c_BitLenVarTime(x p:Nat)(L R:List Nat)(w:World)(h:NatIs w x p L R)(hL:Words L) :
 Calls Tryz.prog 108 #[ptr x] w fun e w'=>e=.returned (i64 (blen (val L)))∧w=w':=by
 have hc:=h.cell
 have hcap:=h.cap
 have hfin:Hid (rowBits L L.length=blen (val L)):=hide (by rw[rowBits_eq hL _ (Nat.le_refl _),List.take_length])
 go_enter Tryz.func108,Tryz.ntmps108
 go_wp2_with fail
 go_loop [5] (fun i=>∃k:Nat,k≤L.length∧i=.int .i64 ((k:Int)-1)∧Hid (rowBits L k=blen (val L))) (fun i=>(intOf i+1).toNat)
 case atStart=>exact⟨L.length,Nat.le_refl _,rfl,hfin⟩
 case round=>
  obtain⟨k,hk,rfl,hr⟩:=hrel
  cases k with
  |zero=>
   go_wp2_with fail
   go_ret
   exact⟨ret_i64 (a:=0) hr.out,rfl⟩
  |succ k=>
   have h1:=h.at k (by omega)
   have e1:Hid (((k+1:Nat):Int)-1=(k:Int)):=hide (by omega)
   have hw:=hL.nth k
   have hb:=blen_word hw
   rw[e1.out]
   by_cases h0:nth L k=0
   ·have hne:((nth L k:Int) != 0)=false:=by simpa using h0
    have hs:Hid (rowBits L k=blen (val L)):=hide (by have:=hr.out;simp only[rowBits]at this;rw[if_pos h0]at this;exact this)
    clear h0 hr
    go_wp2_with fail
    go_round
    case rel=>exact⟨k,by omega,by go_num,hs⟩
    case measure=>simp[intOf]
   ·have hne:((nth L k:Int) != 0)=true:=by simpa using h0
    have hs:Hid (k*64+blen (nth L k)=blen (val L)):=hide (by have:=hr.out;simp only[rowBits]at this;rw[if_neg h0]at this;exact this)
    clear h0 hr
    go_wp2_with fail
    refine(c_bitLen (nth L k) hw _).mono ?_;rintro e w' ⟨rfl,rfl⟩
    go_wp2_with fail
    go_ret
    refine⟨Eq.trans ?_ (ret_i64 hs.out),rfl⟩
    simp
theorem take_append_more(L R:List Nat)(k:Nat):L.take k++(L.drop k++R)=L++R:=by
 rw[←List.append_assoc,List.take_append_drop]
set_option maxRecDepth 100000 in
theorem c_trim(x p:Nat)(L R:List Nat)(w:World)(h:NatIs w x p L R) :
 Calls Tryz.prog 131 #[ptr x] w fun e w'=>
  ∃R',e=.returned (ptr x)∧Mod [x] w w'∧NatIs w' x p (L.take (trimN L L.length)) R':=by
 have hc:=h.cell
 have hcap:=h.cap
 have hne:=h.ne
 have hpx:p∉[x]:=by simp;omega
 go_enter Tryz.func131,Tryz.ntmps131
 go_wp2_with fail
 go_loopw [3] (fun i wr=>∃k:Nat,k≤L.length∧i=.int .i64 ((k:Int)-1)∧Hid (trimN L k=trimN L L.length)∧Mod [x] w wr∧Blk wr x 180 [sl p 0 k (L.length+R.length)]) (fun i _=>(intOf i+1).toNat)
 case atStart=>exact⟨L.length,Nat.le_refl _,rfl,hide rfl,Mod.refl _ _,h.head⟩
 case round=>
  obtain⟨k,hk,rfl,hr,hm,hx⟩:=hrel
  have hrow:=h.row.mod hm hpx
  have hend:∀j,trimN L k=j→k=j→NatIs wr x p (L.take (trimN L L.length)) (L.drop k++R):=by
   intro j hj hkj
   rw[←hr.out,hj,←hkj]
   refine⟨?_,by rw[take_append_more L R k];exact hrow,by simp;omega⟩
   have e:(L.take k).length+(L.drop k++R).length=L.length+R.length:=by simp;omega
   rw[e,List.length_take,Nat.min_eq_left hk]
   exact hx
  have hcx:=blk_cell0 hx
  have hfx:=hx.frozen 0
  cases k with
  |zero=>
   have hfin:=hend 0 rfl rfl
   clear hend hrow
   go_wp2_with fail
   go_ret
   exact⟨_,rfl,hm,hfin⟩
  |succ k=>
   have h1:wr.cell? ⟨p,k,none⟩=some (u64 (nth L k)):=by rw[hrow.at k (by simp;omega),nth_append_left (by omega)]
   have e1:Hid (((k+1:Nat):Int)-1=(k:Int)):=hide (by omega)
   rw[e1.out]
   by_cases h0:nth L k=0
   ·have hne:((nth L k:Int) != 0)=false:=by simpa using h0
    have hs:Hid (trimN L k=trimN L L.length):=hide (by have:=hr.out;simp only[trimN]at this;rw[if_pos h0]at this;exact this)
    have hx2:Blk (wr.setCell ⟨x,0,none⟩ (sl p 0 k (L.length+R.length))) x 180 [sl p 0 k (L.length+R.length)]:=hx.setCell 0 _
    have hm2:Mod [x] w (wr.setCell ⟨x,0,none⟩ (sl p 0 k (L.length+R.length))):=hm.setCell _ _ (by simp)
    clear h0 hr hend hrow
    go_wp2_with fail
    go_roundw
    case rel=>exact⟨k,by omega,by go_num,hs,hm2,hx2⟩
    case measure=>simp[intOf]
   ·have hne:((nth L k:Int) != 0)=true:=by simpa using h0
    have hfin:=hend (k+1) (by simp only[trimN];rw[if_neg h0]) rfl
    clear h0 hr hend hrow
    go_wp2_with fail
    go_ret
    exact⟨_,rfl,hm,hfin⟩
end Go.Proofs.YtfgmnbmnpihjdaaGreatDoor
