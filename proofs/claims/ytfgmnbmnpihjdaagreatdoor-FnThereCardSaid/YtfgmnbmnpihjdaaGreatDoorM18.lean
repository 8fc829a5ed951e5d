/- Lemmas of mine for the walk and its plain laws: NatS NatS2 NatT -/
import Derived.Test.YtfgmnbmnpihjdaaGreatDoorM17
import Derived.Deep.LoopGhost
import Derived.StillTailTactics
set_option linter.all false
set_option exponentiation.threshold 7000000
set_option maxHeartbeats 8000000
namespace Go.Proofs.YtfgmnbmnpihjdaaGreatDoor
open Go.RowKit
structure XS(w0 w wr:World)(o po tb n:Nat)(xs ys ps:List Nat)(Q:Nat→List Nat→Prop):Prop where
 tab:Tab w0.heap.size wr n xs ps Q
 frame:Mod [o,po] w wr
 row:Blk wr tb 186 (ys.map ptr)
 k0:Kept w po (nth ps 0)
 new:∀j,1≤j→j<n→w.heap.size≤nth xs j∧w.heap.size≤nth ps j
 x0:nth xs 0=o
 base:w0.heap.size≤w.heap.size
theorem XS.upd{w0 w wr w':World}{o po tb n i p:Nat}{xs ys ps:List Nat}{Q Q':Nat→List Nat→Prop}{L R:List Nat}(h:XS w0 w wr o po tb n xs ys ps Q)(hi:i<n)(m:Mod [nth xs i,nth ps i] wr w')(hx:NatIs w' (nth xs i) p L R)(hk:Kept wr (nth ps i) p)
 (hQ:∀j L,j≠i→Q j L→Q' j L) (hQi:Q' i L):XS w0 w w' o po tb n xs ys (ps.set i p) Q':=by
 have hs:=h.frame.size
 obtain⟨Li,Ri,hni,-⟩:=h.tab.nat i hi
 have gi:=h.tab.gx i hi
 have hlp:=h.tab.lp
 have gp:w0.heap.size≤p:=by
  have:=h.base
  rcases hk with h1|h1<;>omega
 refine⟨h.tab.upd hi m hx hk gp hQ hQi,?_,?_,?_,?_,h.x0,h.base⟩
 ·refine Mod.trans (U:=[o,po]) h.frame m (fun a ha _=>ha) (fun a ha hlt=>?_)
  simp at ha
  rcases Nat.eq_zero_or_pos i with h0|h0
  ·subst h0
   rw[h.x0]at ha
   rcases h.k0 with h1|h1
   ·rw[h1]at ha;simp[ha]
   ·rcases ha with ha|ha
    ·simp[ha]
    ·omega
  ·have:=h.new i h0 hi
   omega
 ·exact h.row.mod m (by simp;exact⟨h.row.ne hni.head (by decide),h.row.ne hni.row (by decide)⟩)
 ·rcases Nat.eq_zero_or_pos i with h0|h0
  ·subst h0
   rw[nth_set_same (by omega)]
   rcases hk with h1|h1
   ·rw[h1];exact h.k0
   ·exact .inr (by omega)
  ·rw[nth_set_ne (by omega)];exact h.k0
 ·intro j h1 h2
  have hj:=h.new j h1 h2
  by_cases hji:j=i
  ·subst hji
   rw[nth_set_same (by omega)]
   refine⟨hj.1,?_⟩
   rcases hk with h3|h3<;>omega
  ·rw[nth_set_ne (by omega)];exact hj
theorem XS.mod{w0 w wr w':World}{o po tb n:Nat}{xs ys ps:List Nat}{Q:Nat→List Nat→Prop}(h:XS w0 w wr o po tb n xs ys ps Q)(m:Mod [] wr w'):XS w0 w w' o po tb n xs ys ps Q:=
 ⟨h.tab.mod m (fun _ _=>by simp),Mod.trans (U:=[o,po]) h.frame m (fun a ha _=>ha) (by simp),h.row.mod m (by simp),h.k0,h.new,h.x0,h.base⟩
theorem XS.turn{w0 w wr:World}{o po tb n:Nat}{xs ys ps:List Nat}{Q Q':Nat→List Nat→Prop}(h:XS w0 w wr o po tb n xs ys ps Q)(hQ:∀j L,j<n→Q j L→Q' j L):XS w0 w wr o po tb n xs ys ps Q':=
 ⟨h.tab.turn hQ,h.frame,h.row,h.k0,h.new,h.x0,h.base⟩
theorem XS.push{w0 w wr w':World}{o po tb n x p:Nat}{xs ys ps:List Nat}{Q:Nat→List Nat→Prop}{L R:List Nat}(h:XS w0 w wr o po tb n xs ys ps Q)(h1:1≤n)(m:Mod [] wr w')(hx:NatIs w' x p L R)(gx:wr.heap.size≤x)(gp:wr.heap.size≤p)(hQ:Q n L) :
 XS w0 w w' o po tb (n+1) (xs++[x]) ys (ps++[p]) Q:=by
 have hs:=h.frame.size
 have hb:=h.base
 have l1:=h.tab.lx
 have l2:=h.tab.lp
 refine⟨h.tab.push m hx gx gp (by omega) hQ,(h.mod m).frame,(h.mod m).row,?_,?_,?_,hb⟩
 ·rw[nth_append_left (by omega)];exact h.k0
 ·intro j h2 h3
  by_cases hj:j<n
  ·rw[nth_append_left (by omega),nth_append_left (by omega)];exact h.new j h2 hj
  ·obtain rfl:j=n:=by omega
   have e3:nth (xs++[x]) j=x:=by rw[nth_append_right (by omega),l1,Nat.sub_self];rfl
   have e4:nth (ps++[p]) j=p:=by rw[nth_append_right (by omega),l2,Nat.sub_self];rfl
   rw[e3,e4]
   omega
 ·rw[nth_append_left (by omega)];exact h.x0
theorem XS.base0{w0 w wr:World}{o po tb n:Nat}{xs ys ps:List Nat}{Q:Nat→List Nat→Prop}(h:XS w0 w wr o po tb n xs ys ps Q)(h0:Mod [] w0 w)(g1:w0.heap.size≤o)(g2:w0.heap.size≤po):Mod [] w0 wr:=h0.keep2 h.frame g1 g2
theorem bval_take{E:List Nat}{i:Nat}(hi:i<E.length):bval (E.take (i+1))=256*bval (E.take i)+nth E i:=by
 have hl:(E.take (i+1)).length=i+1:=by simp;omega
 have hl2:(E.take i).length=i:=by simp;omega
 unfold bval
 rw[hl,hl2]
 have e:=bseg_add (E.take (i+1)) (i+1) 1 i
 rw[show 1+i=i+1 by omega]at e
 rw[e]
 have h1:bseg (E.take (i+1)) (i+1) 1=nth E i:=by
  simp only[bseg,Nat.pow_zero,Nat.one_mul,Nat.zero_add,Nat.add_sub_cancel,Nat.sub_zero]
  simp[nth]
 have h2:∀t,t≤i→bseg (E.take (i+1)) (i+1-1) t=bseg (E.take i) i t:=by
  intro t
  induction t with
  |zero=>intro _;rfl
  |succ t ih=>
   intro ht
   simp only[bseg]
   rw[ih (by omega),Nat.add_sub_cancel]
   congr 2
   simp[nth,List.getElem?_take]
   rw[if_pos (by omega),if_pos (by omega)]
 rw[h1,h2 i (Nat.le_refl _),Nat.pow_one]
 omega
theorem nib_hi:∀b:Fin 256,bits .and .u8 ((b.val/16:Nat):Int) 15=((b.val/16:Nat):Int):=by decide +kernel
theorem nib_lo:∀b:Fin 256,bits .and .u8 ((b.val:Nat):Int) 15=((b.val%16:Nat):Int):=by decide +kernel
def ExpQ(O T:List Nat→Prop)(M:List Nat)(c k:Nat)(j:Nat)(L:List Nat):Prop:=(j=0→O L)∧(1≤j→j≤k→InR (c^j) L M)∧(j=16→T L)
def RowsKept(w w':World):Prop:=∀b T vs,T≠180→T≠51→Blk w b T vs→Blk w' b T vs
theorem RowsKept.of{w w':World}{x p:Nat}{L R:List Nat}(hx:NatIs w x p L R)(m:Mod [x,p] w w'):RowsKept w w':=by
 intro b T vs h1 h2 hb
 exact hb.mod m (by simp;exact⟨hb.ne hx.head h1,hb.ne hx.row h2⟩)
section
variable {w0 w wr:World} {n m y q o po tb t c a kk:Nat} {M Q:List Nat} {xs ys ps:List Nat}
theorem c_xsq(h0:Mod [] w0 w)(hM:ModIs w0 n m y q M Q)(ho:val M%2=1)(go:w0.heap.size≤o)(gpo:w0.heap.size≤po){T:List Nat→Prop}
 (X:XS w0 w wr o po tb 17 xs ys ps (ExpQ (fun L=>InR a L M) T M c 15)) :
 Calls Tryz.prog 115 #[ptr o,ptr o,ptr o,ptr m] wr fun e w'=>∃ps',e=.returned (ptr o)∧XS w0 w w' o po tb 17 xs ys ps' (ExpQ (fun L=>InR (a*a) L M) T M c 15)∧RowsKept wr w':=by
 obtain⟨L,R,h1,h2⟩:=X.tab.nat 0 (by omega)
 have g:=(X.tab.gx 0 (by omega)).2
 have hI:=h2.1 rfl
 rw[X.x0]at h1
 refine(c_montB w0 wr n m y q o (nth ps 0) o (nth ps 0) o (nth ps 0) M Q L R L R L R (X.base0 h0 go gpo) hM ho h1 h1 h1 hI.below hI.below.len hI.below.words go g).mono ?_
 rintro e w' ⟨p',A,R',rfl,m2,n2,k2,g2,bA,eA⟩
 refine⟨_,rfl,X.upd (i:=0) (by omega) (by rw[X.x0];exact m2) (by rw[X.x0];exact n2) k2 (fun j L hj h=>⟨fun h1=>absurd h1 hj,h.2.1,h.2.2⟩) ⟨fun _=>InR.mul ho hM.big hI hI bA eA,fun h=>by omega,fun h=>by omega⟩,RowsKept.of h1 m2⟩
theorem c_xmul(h0:Mod [] w0 w)(hM:ModIs w0 n m y q M Q)(ho:val M%2=1)(go:w0.heap.size≤o)(gpo:w0.heap.size≤po)(ht:nth xs 16=t)
 (X:XS w0 w wr o po tb 17 xs ys ps (ExpQ (fun L=>InR a L M) (fun L=>Below' L M∧(kk≠0→InR (c^kk) L M)) M c 15)) :
 Calls Tryz.prog 115 #[ptr t,ptr o,ptr t,ptr m] wr fun e w'=>∃ps',e=.returned (ptr t)∧XS w0 w w' o po tb 17 xs ys ps' (ExpQ (fun L=>InR a L M) (fun L=>Below' L M∧(kk≠0→InR (a*c^kk) L M)) M c 15)∧RowsKept wr w':=by
 obtain⟨L,R,h1,h2⟩:=X.tab.nat 0 (by omega)
 obtain⟨Lt,Rt,h3,h4⟩:=X.tab.nat 16 (by omega)
 have g:=X.tab.gx 16 (by omega)
 have hI:=h2.1 rfl
 have hT:=h4.2.2 rfl
 rw[X.x0]at h1
 rw[ht]at h3 g
 refine(c_montB w0 wr n m y q t (nth ps 16) o (nth ps 0) t (nth ps 16) M Q Lt Rt L R Lt Rt (X.base0 h0 go gpo) hM ho h3 h1 h3 hI.below hT.1.len hT.1.words g.1 g.2).mono ?_
 rintro e w' ⟨p',A,R',rfl,m2,n2,k2,g2,bA,eA⟩
 refine⟨_,rfl,X.upd (i:=16) (by omega) (by rw[ht];exact m2) (by rw[ht];exact n2) k2 (fun j L hj h=>⟨h.1,h.2.1,fun h1=>absurd h1 hj⟩) ⟨fun h=>by omega,fun h1 h2=>by omega,fun _=>⟨bA,fun hk=>InR.mul ho hM.big hI (hT.2 hk) bA eA⟩⟩,RowsKept.of h3 m2⟩
theorem selW_cases(on:Nat)(X Y:List Nat):(on=0∧selW on X Y=X)∨(on≠0∧selW on X Y=Y):=by
 unfold selW
 by_cases h:on=0
 ·exact .inl ⟨h,if_pos h⟩
 ·exact .inr ⟨h,if_neg h⟩
theorem c_xasg{jj:Nat}(hj:jj<15)(ht:nth xs 16=t)
 (X:XS w0 w wr o po tb 17 xs ys ps (ExpQ (fun L=>InR a L M) (fun L=>Below' L M∧(1≤kk→kk≤jj→InR (c^kk) L M)) M c 15)) :
 Calls Tryz.prog 120 #[ptr t,u64 (eqB kk (jj+1)),ptr (nth xs (jj+1))] wr fun e w'=>∃ps',e=.returned (ptr t)∧XS w0 w w' o po tb 17 xs ys ps' (ExpQ (fun L=>InR a L M) (fun L=>Below' L M∧(1≤kk→kk≤jj+1→InR (c^kk) L M)) M c 15)∧RowsKept wr w':=by
 obtain⟨L,R,h1,h2⟩:=X.tab.nat (jj+1) (by omega)
 obtain⟨Lt,Rt,h3,h4⟩:=X.tab.nat 16 (by omega)
 have hI:=h2.2.1 (by omega) (by omega)
 have hT:=h4.2.2 rfl
 rw[ht]at h3
 refine(c_assign t (nth xs (jj+1)) (nth ps 16) (nth ps (jj+1)) (eqB kk (jj+1)) Lt Rt L R wr h3 h1 (hI.below.len.trans hT.1.len.symm) hT.1.words hI.below.words (eqB_le _ _)).mono ?_
 rintro e w' ⟨rfl,m2,n2⟩
 have m3:Mod [t,nth ps 16] wr w':=m2.mono (by simp)
 refine⟨_,rfl,X.upd (i:=16) (by omega) (by rw[ht];exact m3) (by rw[ht];exact n2) (.inl rfl) (fun j L hj h=>⟨h.1,h.2.1,fun h1=>absurd h1 hj⟩) ⟨fun h=>by omega,fun h1 h2=>by omega,fun _=>?_⟩,RowsKept.of h3 m3⟩
 rcases selW_cases (eqB kk (jj+1)) Lt L with⟨h5,h6⟩|⟨h5,h6⟩
 ·rw[h6]
  refine⟨hT.1,fun h7 h8=>hT.2 h7 ?_⟩
  have:kk≠jj+1:=by intro h9;rw[h9]at h5;simp[eqB]at h5
  omega
 ·rw[h6]
  refine⟨hI.below,fun h7 h8=>?_⟩
  have:kk=jj+1:=by
   apply Classical.byContradiction
   intro h9
   exact h5 (eqB_ne h9)
  rw[this];exact hI
theorem c_xout(ht:nth xs 16=t)
 (X:XS w0 w wr o po tb 17 xs ys ps (ExpQ (fun L=>InR a L M) (fun L=>Below' L M∧(kk≠0→InR (a*c^kk) L M)) M c 15)) :
 Calls Tryz.prog 120 #[ptr o,u64 (notB (eqB kk 0)),ptr t] wr fun e w'=>∃ps',e=.returned (ptr o)∧XS w0 w w' o po tb 17 xs ys ps' (ExpQ (fun L=>InR (a*c^kk) L M) (fun L=>Below' L M) M c 15)∧RowsKept wr w':=by
 obtain⟨L,R,h1,h2⟩:=X.tab.nat 0 (by omega)
 obtain⟨Lt,Rt,h3,h4⟩:=X.tab.nat 16 (by omega)
 have hI:=h2.1 rfl
 have hT:=h4.2.2 rfl
 rw[ht]at h3
 rw[X.x0]at h1
 refine(c_assign o t (nth ps 0) (nth ps 16) (notB (eqB kk 0)) L R Lt Rt wr h1 h3 (hT.1.len.trans hI.below.len.symm) hI.below.words hT.1.words (notB_le _)).mono ?_
 rintro e w' ⟨rfl,m2,n2⟩
 have m3:Mod [o,nth ps 0] wr w':=m2.mono (by simp)
 refine⟨_,rfl,X.upd (i:=0) (by omega) (by rw[X.x0];exact m3) (by rw[X.x0];exact n2) (.inl rfl) (fun j L hj h=>⟨fun h1=>absurd h1 hj,h.2.1,fun h1=>(h.2.2 h1).1⟩) ⟨fun _=>?_,fun h1 h2=>by omega,fun h=>by omega⟩,RowsKept.of h1 m3⟩
 rcases selW_cases (notB (eqB kk 0)) L Lt with⟨h5,h6⟩|⟨h5,h6⟩
 ·rw[h6]
  have:kk=0:=by
   apply Classical.byContradiction
   intro h9
   rw[eqB_ne h9]at h5
   simp[notB]at h5
  rw[this,Nat.pow_zero,Nat.mul_one];exact hI
 ·rw[h6]
  refine hT.2 ?_
  intro h9
  rw[h9]at h5
  simp[eqB,notB]at h5
end
def ee(e b j:Nat):Nat:=if j=0 then e else if j=1 then 16*e+b/16 else 256*e+b
set_option maxRecDepth 100000 in
theorem c_Exp(w0 w:World)(n m y q o po x px:Nat)(ve:Value)(M Q Lo Ro L R E:List Nat)(h0:Mod [] w0 w)(hM:ModIs w0 n m y q M Q)(ho:val M%2=1)
 (hO:NatIs w o po Lo Ro) (hx:NatIs w x px L R) (bL:Below' L M) (he:SliceB w ve E) (hE:Bytes E) (ae1:Apart ve o) (ae2:Apart ve po) (hnew:∀b o n c,ve=sl b o n c→b<w.heap.size)
 (go:w0.heap.size≤o) (gpo:w0.heap.size≤po) (lE:E.length≤100000) :
 Calls Tryz.prog 89 #[ptr o,ptr x,ve,ptr m] w fun e w'=>
  ∃p' X R',e=.returned (ptr o)∧Mod [o,po] w w'∧NatIs w' o p' X R'∧Kept w po p'∧w0.heap.size≤p'∧Below' X M∧val X=(val L^bval E)%val M:=by
 obtain⟨k,rr,qr,XR,S',hh,-,-,-,-,-,-⟩:=(hM.mod h0).odd ho
 have hc1:=hh.c1
 have hs0:=h0.size
 have hO0:=hO.xlt
 have hO1:=hO.plt
 have hx0:=hx.xlt
 have hx1:=hx.plt
 have HO:=hide ho
 obtain⟨ae,ce,rfl⟩:=he.isSlice
 obtain⟨c,hc⟩:∃c,c=val L:=⟨_,rfl⟩
 have HC:=hide hc
 rw[←hc]
 have T0:Tab w0.heap.size w 1 [o] [po] (fun _ _=>True):=by
  have:=(Tab.nil w0.heap.size w (fun _ _=>True))
  refine⟨rfl,rfl,fun j hj=>?_,fun j hj=>?_,fun i j hi hj h=>by omega,fun i j hi hj h=>by omega⟩
  ·obtain rfl:j=0:=by omega
   exact⟨Lo,Ro,hO,trivial⟩
  ·obtain rfl:j=0:=by omega
   exact⟨go,gpo⟩
 have M0:Mod [] w w:=Mod.refl _ _
 clear ho hc
 go_enter Tryz.func89,Tryz.ntmps89
 go_wp2_with fail
 refine(c_NewNat _).mono ?_
 rintro e w1 ⟨a0,b0,rfl,m',hn',g1',g2'⟩
 have T1:=T0.push m' hn' g1' g2' (by have:=M0.size;omega) trivial
 have M1:=M0.then m'
 have ga0:w.heap.size≤a0∧w.heap.size≤b0:=by have:=M0.size;omega
 clear T0 M0 m' hn' g1' g2'
 go_wp2_with fail
 refine(c_NewNat _).mono ?_
 rintro e w2 ⟨a1,b1,rfl,m',hn',g1',g2'⟩
 have T2:=T1.push m' hn' g1' g2' (by have:=M1.size;omega) trivial
 have M2:=M1.then m'
 have ga1:w.heap.size≤a1∧w.heap.size≤b1:=by have:=M1.size;omega
 clear T1 M1 m' hn' g1' g2'
 go_wp2_with fail
 refine(c_NewNat _).mono ?_
 rintro e w3 ⟨a2,b2,rfl,m',hn',g1',g2'⟩
 have T3:=T2.push m' hn' g1' g2' (by have:=M2.size;omega) trivial
 have M3:=M2.then m'
 have ga2:w.heap.size≤a2∧w.heap.size≤b2:=by have:=M2.size;omega
 clear T2 M2 m' hn' g1' g2'
 go_wp2_with fail
 refine(c_NewNat _).mono ?_
 rintro e w4 ⟨a3,b3,rfl,m',hn',g1',g2'⟩
 have T4:=T3.push m' hn' g1' g2' (by have:=M3.size;omega) trivial
 have M4:=M3.then m'
 have ga3:w.heap.size≤a3∧w.heap.size≤b3:=by have:=M3.size;omega
 clear T3 M3 m' hn' g1' g2'
 go_wp2_with fail
 refine(c_NewNat _).mono ?_
 rintro e w5 ⟨a4,b4,rfl,m',hn',g1',g2'⟩
 have T5:=T4.push m' hn' g1' g2' (by have:=M4.size;omega) trivial
 have M5:=M4.then m'
 have ga4:w.heap.size≤a4∧w.heap.size≤b4:=by have:=M4.size;omega
 clear T4 M4 m' hn' g1' g2'
 go_wp2_with fail
 refine(c_NewNat _).mono ?_
 rintro e w6 ⟨a5,b5,rfl,m',hn',g1',g2'⟩
 have T6:=T5.push m' hn' g1' g2' (by have:=M5.size;omega) trivial
 have M6:=M5.then m'
 have ga5:w.heap.size≤a5∧w.heap.size≤b5:=by have:=M5.size;omega
 clear T5 M5 m' hn' g1' g2'
 go_wp2_with fail
 refine(c_NewNat _).mono ?_
 rintro e w7 ⟨a6,b6,rfl,m',hn',g1',g2'⟩
 have T7:=T6.push m' hn' g1' g2' (by have:=M6.size;omega) trivial
 have M7:=M6.then m'
 have ga6:w.heap.size≤a6∧w.heap.size≤b6:=by have:=M6.size;omega
 clear T6 M6 m' hn' g1' g2'
 go_wp2_with fail
 refine(c_NewNat _).mono ?_
 rintro e w8 ⟨a7,b7,rfl,m',hn',g1',g2'⟩
 have T8:=T7.push m' hn' g1' g2' (by have:=M7.size;omega) trivial
 have M8:=M7.then m'
 have ga7:w.heap.size≤a7∧w.heap.size≤b7:=by have:=M7.size;omega
 clear T7 M7 m' hn' g1' g2'
 go_wp2_with fail
 refine(c_NewNat _).mono ?_
 rintro e w9 ⟨a8,b8,rfl,m',hn',g1',g2'⟩
 have T9:=T8.push m' hn' g1' g2' (by have:=M8.size;omega) trivial
 have M9:=M8.then m'
 have ga8:w.heap.size≤a8∧w.heap.size≤b8:=by have:=M8.size;omega
 clear T8 M8 m' hn' g1' g2'
 go_wp2_with fail
 refine(c_NewNat _).mono ?_
 rintro e w10 ⟨a9,b9,rfl,m',hn',g1',g2'⟩
 have T10:=T9.push m' hn' g1' g2' (by have:=M9.size;omega) trivial
 have M10:=M9.then m'
 have ga9:w.heap.size≤a9∧w.heap.size≤b9:=by have:=M9.size;omega
 clear T9 M9 m' hn' g1' g2'
 go_wp2_with fail
 refine(c_NewNat _).mono ?_
 rintro e w11 ⟨a10,b10,rfl,m',hn',g1',g2'⟩
 have T11:=T10.push m' hn' g1' g2' (by have:=M10.size;omega) trivial
 have M11:=M10.then m'
 have ga10:w.heap.size≤a10∧w.heap.size≤b10:=by have:=M10.size;omega
 clear T10 M10 m' hn' g1' g2'
 go_wp2_with fail
 refine(c_NewNat _).mono ?_
 rintro e w12 ⟨a11,b11,rfl,m',hn',g1',g2'⟩
 have T12:=T11.push m' hn' g1' g2' (by have:=M11.size;omega) trivial
 have M12:=M11.then m'
 have ga11:w.heap.size≤a11∧w.heap.size≤b11:=by have:=M11.size;omega
 clear T11 M11 m' hn' g1' g2'
 go_wp2_with fail
 refine(c_NewNat _).mono ?_
 rintro e w13 ⟨a12,b12,rfl,m',hn',g1',g2'⟩
 have T13:=T12.push m' hn' g1' g2' (by have:=M12.size;omega) trivial
 have M13:=M12.then m'
 have ga12:w.heap.size≤a12∧w.heap.size≤b12:=by have:=M12.size;omega
 clear T12 M12 m' hn' g1' g2'
 go_wp2_with fail
 refine(c_NewNat _).mono ?_
 rintro e w14 ⟨a13,b13,rfl,m',hn',g1',g2'⟩
 have T14:=T13.push m' hn' g1' g2' (by have:=M13.size;omega) trivial
 have M14:=M13.then m'
 have ga13:w.heap.size≤a13∧w.heap.size≤b13:=by have:=M13.size;omega
 clear T13 M13 m' hn' g1' g2'
 go_wp2_with fail
 refine(c_NewNat _).mono ?_
 rintro e w15 ⟨a14,b14,rfl,m',hn',g1',g2'⟩
 have T15:=T14.push m' hn' g1' g2' (by have:=M14.size;omega) trivial
 have M15:=M14.then m'
 have ga14:w.heap.size≤a14∧w.heap.size≤b14:=by have:=M14.size;omega
 clear T14 M14 m' hn' g1' g2'
 go_wp2_with fail
 have X0:XS w0 w (w15.alloc (.cells #[ptr a0,ptr a1,ptr a2,ptr a3,ptr a4,ptr a5,ptr a6,ptr a7,ptr a8,ptr a9,ptr a10,ptr a11,ptr a12,ptr a13,ptr a14] 186)) o po w15.heap.size 16 [o,a0,a1,a2,a3,a4,a5,a6,a7,a8,a9,a10,a11,a12,a13,a14] [a0,a1,a2,a3,a4,a5,a6,a7,a8,a9,a10,a11,a12,a13,a14] [po,b0,b1,b2,b3,b4,b5,b6,b7,b8,b9,b10,b11,b12,b13,b14] (fun _ _=>True):=by
  refine⟨T15.mod ((Mod.refl [] w15).alloc _) (fun _ _=>by simp),(M15.alloc _).mono (by simp),Blk.new w15 _ [ptr a0,ptr a1,ptr a2,ptr a3,ptr a4,ptr a5,ptr a6,ptr a7,ptr a8,ptr a9,ptr a10,ptr a11,ptr a12,ptr a13,ptr a14],.inl rfl,?_,rfl,hs0⟩
  intro j h1 h2
  rcases (show j=1∨j=2∨j=3∨j=4∨j=5∨j=6∨j=7∨j=8∨j=9∨j=10∨j=11∨j=12∨j=13∨j=14∨j=15 by omega)with rfl|rfl|rfl|rfl|rfl|rfl|rfl|rfl|rfl|rfl|rfl|rfl|rfl|rfl|rfl
  ·exact ga0
  ·exact ga1
  ·exact ga2
  ·exact ga3
  ·exact ga4
  ·exact ga5
  ·exact ga6
  ·exact ga7
  ·exact ga8
  ·exact ga9
  ·exact ga10
  ·exact ga11
  ·exact ga12
  ·exact ga13
  ·exact ga14
 have hxy:∀j,j<15→nth [a0,a1,a2,a3,a4,a5,a6,a7,a8,a9,a10,a11,a12,a13,a14] j=nth [o,a0,a1,a2,a3,a4,a5,a6,a7,a8,a9,a10,a11,a12,a13,a14] (j+1):=by
  intro j hj
  rcases (show j=0∨j=1∨j=2∨j=3∨j=4∨j=5∨j=6∨j=7∨j=8∨j=9∨j=10∨j=11∨j=12∨j=13∨j=14 by omega)with rfl|rfl|rfl|rfl|rfl|rfl|rfl|rfl|rfl|rfl|rfl|rfl|rfl|rfl|rfl<;>rfl
 have hxa:nth [o,a0,a1,a2,a3,a4,a5,a6,a7,a8,a9,a10,a11,a12,a13,a14] 1=a0:=rfl
 have hx1':NatIs (w15.alloc (.cells #[ptr a0,ptr a1,ptr a2,ptr a3,ptr a4,ptr a5,ptr a6,ptr a7,ptr a8,ptr a9,ptr a10,ptr a11,ptr a12,ptr a13,ptr a14] 186)) x px L R:=hx.mod (M15.alloc _) (by simp) (by simp)
 obtain⟨tb,htb⟩:∃tb,tb=w15.heap.size:=⟨_,rfl⟩
 rw[←htb]at X0 ⊢
 obtain⟨WA,hWA⟩:∃WA,WA=w15.alloc (.cells #[ptr a0,ptr a1,ptr a2,ptr a3,ptr a4,ptr a5,ptr a6,ptr a7,ptr a8,ptr a9,ptr a10,ptr a11,ptr a12,ptr a13,ptr a14] 186):=⟨_,rfl⟩
 rw[←hWA]at X0 hx1' ⊢
 obtain⟨xs,hxs⟩:∃xs,xs=[o,a0,a1,a2,a3,a4,a5,a6,a7,a8,a9,a10,a11,a12,a13,a14]:=⟨_,rfl⟩
 rw[←hxs]at X0 hxy hxa
 obtain⟨ys,hys⟩:∃ys,ys=[a0,a1,a2,a3,a4,a5,a6,a7,a8,a9,a10,a11,a12,a13,a14]:=⟨_,rfl⟩
 rw[←hys]at X0 hxy
 have hyl:ys.length=15:=by rw[hys];rfl
 obtain⟨ps,hps⟩:∃ps,ps=[po,b0,b1,b2,b3,b4,b5,b6,b7,b8,b9,b10,b11,b12,b13,b14]:=⟨_,rfl⟩
 rw[←hps]at X0
 have HXY:=hide hxy
 have HYL:=hide hyl
 have HXA:=hide hxa
 clear T15 M15 ga0 ga1 ga2 ga3 ga4 ga5 ga6 ga7 ga8 ga9 ga10 ga11 ga12 ga13 ga14 hxs hys hps htb hWA hxy hyl hxa hO hO0 hO1
 obtain⟨L1,R1,n1,-⟩:=X0.tab.nat 1 (by omega)
 rw[HXA.out]at n1
 have gn1:=X0.new 1 (by omega) (by omega)
 rw[HXA.out]at gn1
 refine(c_set' a0 (nth ps 1) x px L1 R1 L R _ n1 hx1' (by omega) (by omega)).mono ?_
 rintro e u1 ⟨p1,S1,rfl,mu1,nu1,ku1⟩
 have X1:=X0.upd (i:=1) (Q':=fun _ _=>True) (by omega) (by rw[HXA.out];exact mu1) (by rw[HXA.out];exact nu1) ku1 (fun _ _ _ _=>trivial) trivial
 have B1:=X1.base0 h0 go gpo
 have gq1:=X1.tab.gx 1 (by omega)
 rw[HXA.out,nth_set_same (by rw[X0.tab.lp];omega)]at gq1
 clear X0 mu1 ku1 n1 hx1' gn1
 go_wp2_with fail
 refine(c_montRep w0 u1 n m y q a0 p1 M Q L S1 B1 hM HO.out nu1 bL gq1.1 gq1.2).mono ?_
 rintro e u2 ⟨p2,A1,S2,rfl,mu2,nu2,ku2,gu2,bA1,eA1⟩
 have X2:=X1.upd (i:=1) (Q':=ExpQ (fun _=>True) (fun _=>True) M c 1) (by omega) (by rw[HXA.out,nth_set_same (by have:=X1.tab.lp;rw[List.length_set]at this;omega)];exact mu2) (by rw[HXA.out];exact nu2)
  (by rw[nth_set_same (by have:=X1.tab.lp;rw[List.length_set]at this;omega)];exact ku2) (fun j L hj _=>⟨fun _=>trivial,fun h1 h2=>absurd (by omega) hj,fun _=>trivial⟩)
  ⟨fun _=>trivial,fun _ _=>⟨bA1,by rw[eA1,Nat.pow_one,HC.out]⟩,fun _=>trivial⟩
 obtain⟨ps1,hps1⟩:∃ps1,ps1=(ps.set 1 p1).set 1 p2:=⟨_,rfl⟩
 rw[←hps1]at X2
 clear X1 B1 gq1 mu2 nu2 ku2 gu2 bA1 eA1 hps1 nu1
 go_wp2_with fail
 go_loopw [10] (fun iv wr=>∃(i:Nat) (ps:List Nat),iv=i64 i∧1≤i∧i≤15∧XS w0 w wr o po tb 16 xs ys ps (ExpQ (fun _=>True) (fun _=>True) M c i)) (fun iv _=>15-(intOf iv).toNat)
 case atStart=>exact⟨1,ps1,rfl,by omega,by omega,X2⟩
 case round=>
  clear X2
  obtain⟨i,ps2,rfl,hi1,hi2,X⟩:=hrel
  by_cases hlt:i<15
  ·obtain⟨i',hi'⟩:∃i',i'=i-1:=⟨_,rfl⟩
   have e1:(i:Int)-1=(i':Int):=by omega
   have r0:=X.row.at 0 (by rw[HYL.out];omega)
   have r1:=X.row.at i (by rw[HYL.out];omega)
   have r2:=X.row.at i' (by rw[HYL.out];omega)
   rw[HXY.out 0 (by omega),HXA.out]at r0
   rw[HXY.out i hlt]at r1
   rw[HXY.out i' (by omega),show i'+1=i by omega]at r2
   obtain⟨La,Ra,na,qa⟩:=X.tab.nat (i+1) (by omega)
   obtain⟨Lb,Rb,nb,qb⟩:=X.tab.nat i (by omega)
   obtain⟨Lc,Rc,nc,qc⟩:=X.tab.nat 1 (by omega)
   have ga:=X.tab.gx (i+1) (by omega)
   obtain⟨xa,hxa⟩:∃xa,xa=nth xs (i+1):=⟨_,rfl⟩
   obtain⟨xb,hxb⟩:∃xb,xb=nth xs i:=⟨_,rfl⟩
   rw[←hxa]at na r1 ga
   rw[←hxb]at nb r2
   rw[HXA.out]at nc
   have C:=hide (fun wd (md:Mod [] wr wd)=>c_montB w0 wd n m y q xa (nth ps2 (i+1)) xb (nth ps2 i) a0 (nth ps2 1) M Q La Ra Lb Rb Lc Rc ((X.base0 h0 go gpo).then md) hM HO.out (na.mod md (by simp) (by simp)) (nb.mod md (by simp) (by simp)) (nc.mod md (by simp) (by simp)) (qb.2.1 (by omega) (by omega)).below (qc.2.1 (by omega) (by omega)).below.len (qc.2.1 (by omega) (by omega)).below.words ga.1 ga.2)
   have HA:=hide hxa
   have QB:=hide (qb.2.1 (by omega) (by omega))
   have QC:=hide (qc.2.1 (by omega) (by omega))
   have HI:=hide hi'
   have hlt2:(i:Int)<15:=by omega
   have hlt3:(i':Int)<15:=by omega
   have wi:IntKind.i64.wrap (i':Int)=(i':Int):=by rw[IntKind.wrap_i64];omega
   have wi2:IntKind.i64.wrap ((i:Int)-1)=(i':Int):=by rw[IntKind.wrap_i64];omega
   clear hxa hxb qa qb qc na nb nc ga hi'
   go_wp2_with fail
   go_region_with (go_at_call 115;refine(C.out _ ((Mod.refl [] _).drew)).mono ?_;rintro e w2 ⟨p',A',R',rfl,m2,n2,k2,g2,bA,eA⟩)
   all_goals
    have Xd:=X.mod ((Mod.refl [] wr).drew)
    have X3:=Xd.upd (i:=i+1) (Q':=ExpQ (fun _=>True) (fun _=>True) M c (i+1)) (by omega) (by rw[←HA.out];exact m2) (by rw[←HA.out];exact n2) k2
     (fun j L hj h=>⟨h.1,fun h1 h2=>h.2.1 h1 (by omega),h.2.2⟩) ⟨fun h=>by omega,fun _ _=>by rw[Nat.pow_succ];exact InR.mul HO.out hM.big QB.out (by have:=QC.out;rwa [Nat.pow_one]at this) bA eA,fun _=>trivial⟩
    clear X Xd m2 n2 k2 g2 bA eA
    go_wp2_with fail
    go_roundw
    case rel=>exact⟨i+1,_,by go_num,by omega,by omega,X3⟩
    case measure=>simp[intOf];omega
  ·obtain rfl:i=15:=by omega
   have Br:=X.base0 h0 go gpo
   have hMr:=hM.mod Br
   obtain⟨oo,kk,rr2,hhr⟩:=hMr.head
   obtain⟨L0,R0,n0,-⟩:=X.tab.nat 0 (by omega)
   rw[X.x0]at n0
   go_wp2_with fail
   refine(c_resetFor o (nth ps2 0) m y q kk oo rr2 L0 R0 M Q wr n0 hhr hMr.nat).mono ?_
   rintro e v1 ⟨q1,S1',rfl,mv1,nv1,kv1⟩
   have hn:=len_pos hM.big
   have hroom:=hM.room
   have Y1:=X.upd (i:=0) (Q':=ExpQ (fun _=>True) (fun _=>True) M c 15) (by omega) (by rw[X.x0];exact mv1) (by rw[X.x0];exact nv1) kv1 (fun j L hj h=>h) ⟨fun _=>trivial,fun h1 h2=>by omega,fun _=>trivial⟩
   have hcv:=nv1.cell
   rw[List.length_replicate]at hcv
   have hcz:=nv1.at 0 (by simp;omega)
   have hfz:=nv1.row.frozen 0
   rw[nth_replicate0]at hcz
   have hn':(0:Int)<(M.length:Int):=by omega
   have nv2:NatIs (v1.setCell ⟨q1,0,none⟩ (.int .u64 1)) o q1 (oneL M.length) S1':=
    nv1.put (by simp[oneL]) (Below.heap_setCell _ _ _ _ nv1.ne) (row_set nv1.row (by simp;omega))
   have mv2:Mod [o,q1] v1 (v1.setCell ⟨q1,0,none⟩ (.int .u64 1)):=(Mod.refl _ _).setCell _ _ (by simp)
   have hlp:=X.tab.lp
   have Y2:=Y1.upd (i:=0) (Q':=ExpQ (fun _=>True) (fun _=>True) M c 15) (by omega) (by rw[X.x0,nth_set_same (by omega)];exact mv2) (by rw[X.x0];exact nv2) (by rw[nth_set_same (by omega)];exact .inl rfl) (fun j L hj h=>h) ⟨fun _=>trivial,fun h1 h2=>by omega,fun _=>trivial⟩
   have B2:=Y2.base0 h0 go gpo
   have gy:=(Y2.tab.gx 0 (by omega)).2
   rw[nth_set_same (by rw[List.length_set];omega)]at gy
   have hx0':=X.x0
   clear X Y1 mv1 kv1 nv1 mv2 n0 hn hroom Br hMr hhr
   go_wp2_with fail
   refine(c_montRep w0 _ n m y q o q1 M Q _ S1' B2 hM HO.out nv2 (oneL_below hM.big) go gy).mono ?_
   rintro e v3 ⟨q3,A3,S3,rfl,mv3,nv3,kv3,gv3,bA3,eA3⟩
   have IR:InR (c^0) A3 M:=⟨bA3,by rw[eA3,oneL_val (len_pos hM.big),Nat.pow_zero]⟩
   have Y3:=Y2.upd (i:=0) (Q':=ExpQ (fun L=>InR (c^0) L M) (fun _=>True) M c 15) (by omega) (by rw[hx0',nth_set_same (by rw[List.length_set];omega)];exact mv3) (by rw[hx0'];exact nv3) (by rw[nth_set_same (by rw[List.length_set];omega)];exact kv3)
    (fun j L hj h=>⟨fun h1=>absurd h1 hj,h.2.1,h.2.2⟩) ⟨fun _=>IR,fun h1 h2=>by omega,fun _=>trivial⟩
   obtain⟨ps3,hps3⟩:∃ps3,ps3=(((ps2.set 0 q1).set 0 q1).set 0 q3):=⟨_,rfl⟩
   rw[←hps3]at Y3
   clear Y2 B2 gy mv3 nv3 kv3 gv3 bA3 eA3 IR hps3 nv2
   go_wp2_with fail
   refine(c_NewNat _).mono ?_
   rintro e v4 ⟨t,pt,rfl,mv4,nt,gt1,gt2⟩
   have Y4:=Y3.push (Q:=ExpQ (fun L=>InR (c^0) L M) (fun _=>True) M c 15) (by omega) mv4 nt gt1 gt2 ⟨fun h=>by omega,fun h1 h2=>by omega,fun _=>trivial⟩
   have B4:=Y4.base0 h0 go gpo
   have hM4:=hM.mod B4
   obtain⟨o4,k4,r4,hh4⟩:=hM4.head
   go_wp2_with fail
   refine(c_ExpandFor t pt m y q k4 o4 r4 [] _ M Q _ nt hh4 hM4.nat (by simp)).mono ?_
   rintro e v5 ⟨pt5,Rt5,rfl,mv5,nv5,kv5⟩
   rw[padTo_nil]at nv5
   have ext:nth (xs++[t]) 16=t:=by rw[nth_append_right (by rw[Y3.tab.lx];omega),Y3.tab.lx];rfl
   have ept:nth (ps3++[pt]) 16=pt:=by rw[nth_append_right (by rw[Y3.tab.lp];omega),Y3.tab.lp];rfl
   have Y5:=Y4.upd (i:=16) (Q':=ExpQ (fun L=>InR (c^bval (E.take 0)) L M) (fun L=>Below' L M) M c 15) (by omega) (by rw[ext,ept];exact mv5) (by rw[ext];exact nv5) (by rw[ept];exact kv5)
    (fun j L hj h=>⟨fun h1=>by have:=h.1 h1;exact this,h.2.1,fun h1=>absurd h1 hj⟩) ⟨fun h=>by omega,fun h1 h2=>by omega,fun _=>⟨by simp,Words.replicate0 _,by rw[val_replicate0];have:=hM.big;omega⟩⟩
   have HXY2:Hid (∀j,j<15→nth ys j=nth (xs++[t]) (j+1)):=hide (fun j hj=>by rw[HXY.out j hj,nth_append_left (by rw[Y3.tab.lx];omega)])
   obtain⟨ps5,hps5⟩:∃ps5,ps5=(ps3++[pt]).set 16 pt5:=⟨_,rfl⟩
   rw[←hps5]at Y5
   have EXT:=hide ext
   obtain⟨xs5,hxs5⟩:∃xs5,xs5=xs++[t]:=⟨_,rfl⟩
   rw[←hxs5]at Y5 HXY2 EXT
   clear Y3 Y4 B4 hM4 hh4 mv4 nt gt1 gt2 mv5 nv5 kv5 ext ept hps5 hxs5 HXY HXA hx0'
   go_wp2_with fail
   go_loopw [77] (fun iv wr=>∃(i:Nat) (ps:List Nat),iv=i64 i∧i≤E.length∧XS w0 w wr o po tb 17 xs5 ys ps (ExpQ (fun L=>InR (c^bval (E.take i)) L M) (fun L=>Below' L M) M c 15)) (fun iv _=>E.length-(intOf iv).toNat)
   case atStart=>exact⟨0,ps5,rfl,by omega,Y5⟩
   case round=>
    clear Y5
    obtain⟨i,ps6,rfl,hi,X⟩:=hrel
    by_cases hlt:i<E.length
    ·have hbm:=he.mod X.frame (by intro z hz;simp at hz;rcases hz with rfl|rfl;exact ae1;exact ae2)
     obtain⟨eb,eo,hae,hce,hcb⟩:∃eb eo,ae=some ⟨eb,eo,none⟩∧E.length≤ce∧CellsB wr eb eo E:=by
      rcases hbm with⟨h1,h2⟩|⟨h1,h2,h3,h4⟩|⟨b',o',c',h1,h2,h3⟩
      ·rw[h2]at hlt;simp at hlt
      ·rw[h4]at hlt;simp at hlt
      ·simp only[Value.slice.injEq]at h1
       exact⟨b',o',h1.1,by rw[h1.2.2];exact h2,h3⟩
     subst hae
     have hcell:=hcb i hlt
     obtain⟨b,hb⟩:∃b,b=nth E i:=⟨_,rfl⟩
     obtain⟨ex,hex⟩:∃ex,ex=bval (E.take i):=⟨_,rfl⟩
     have hb256:b<256:=by rw[hb];exact hE i
     rw[←hb]at hcell
     rw[←hex]at X
     have HNX:=hide (show bval (E.take (i+1))=ee ex b 2 by rw[bval_take hlt,←hex,←hb];rfl)
     have hlt':(i:Int)<(E.length:Int):=by omega
     have X6:=X.mod ((Mod.refl [] wr).alloc (.cells #[.int .i64 4,.int .i64 0] 3))
     have hsb:Blk (wr.alloc (.cells #[.int .i64 4,.int .i64 0] 3)) wr.heap.size 3 [i64 4,i64 0]:=Blk.new wr _ _
     obtain⟨sb,hsb0⟩:∃sb,sb=wr.heap.size:=⟨_,rfl⟩
     rw[←hsb0]at hsb
     clear hb hex hbm hcb X
     go_wp2_with fail
     rw[←hsb0]
     clear hcell hsb0
     go_loopw [83] (fun jv wx=>∃(j:Nat) (ps:List Nat),jv=i64 j∧j≤2∧XS w0 w wx o po tb 17 xs5 ys ps (ExpQ (fun L=>InR (c^ee ex b j) L M) (fun L=>Below' L M) M c 15)∧Blk wx sb 3 [i64 4,i64 0]) (fun jv _=>2-(intOf jv).toNat)
     case atStart=>exact⟨0,ps6,rfl,by omega,X6,hsb⟩
     case round=>
      clear X6 hsb
      obtain⟨j,ps7,rfl,hj,X,hS⟩:=hrel
      by_cases hj2:j<2
      ·obtain⟨sh,hsh,kk,hkk,hcs,hkf,hek⟩:∃sh:Nat,sh≤7∧∃kk:Nat,kk<16∧wr.cell? ⟨sb,j,none⟩=some (i64 sh)∧Hid (IntKind.u64.wrap (bits .and .u8 ((b:Int)/2^sh) 15)=(kk:Int))∧ee ex b (j+1)=16*ee ex b j+kk:=by
        rcases (by omega:j=0∨j=1)with rfl|rfl
        ·refine⟨4,by omega,b/16,by omega,by rw[hS.cell];rfl,hide ?_,rfl⟩
         have h1:bits .and .u8 ((b/16:Nat):Int) 15=((b/16:Nat):Int):=nib_hi ⟨b,hb256⟩
         have e:(b:Int)/2^4=((b/16:Nat):Int):=by omega
         rw[e,h1,IntKind.wrap_u64];omega
        ·refine⟨0,by omega,b%16,by omega,by rw[hS.cell];rfl,hide ?_,?_⟩
         ·have h1:bits .and .u8 ((b:Nat):Int) 15=((b%16:Nat):Int):=nib_lo ⟨b,hb256⟩
          have e:(b:Int)/2^0=((b:Nat):Int):=by omega
          rw[e,h1,IntKind.wrap_u64];omega
         show 256*ex+b=16*(16*ex+b/16)+b%16
         omega
       have HEK:=hide hek
       have hj2':(j:Int)<2:=by omega
       clear hek
       go_wp2_with fail
       refine(c_xsq h0 hM HO.out go gpo X).mono ?_
       rintro e z1 ⟨r1,rfl,Z1,k1⟩
       go_wp2_with fail
       refine(c_xsq h0 hM HO.out go gpo Z1).mono ?_
       rintro e z2 ⟨r2,rfl,Z2,k2⟩
       go_wp2_with fail
       refine(c_xsq h0 hM HO.out go gpo Z2).mono ?_
       rintro e z3 ⟨r3,rfl,Z3,k3⟩
       go_wp2_with fail
       refine(c_xsq h0 hM HO.out go gpo Z3).mono ?_
       rintro e z4 ⟨r4,rfl,Z4,k4⟩
       have hS4:=k4 _ _ _ (by decide) (by decide) (k3 _ _ _ (by decide) (by decide) (k2 _ _ _ (by decide) (by decide) (k1 _ _ _ (by decide) (by decide) hS)))
       obtain⟨a16,ha16⟩:∃a16,a16=c^(16*ee ex b j):=⟨_,rfl⟩
       have Y:=Z4.turn (Q':=ExpQ (fun L=>InR a16 L M) (fun L=>Below' L M∧(1≤kk→kk≤0→InR (c^kk) L M)) M c 15) (fun jx Lx _ h=>⟨fun h1=>by
        have h2:=h.1 h1
        have e:c^ee ex b j*c^ee ex b j*(c^ee ex b j*c^ee ex b j)*(c^ee ex b j*c^ee ex b j*(c^ee ex b j*c^ee ex b j))*(c^ee ex b j*c^ee ex b j*(c^ee ex b j*c^ee ex b j)*(c^ee ex b j*c^ee ex b j*(c^ee ex b j*c^ee ex b j)))=a16:=by
         rw[ha16,Nat.mul_comm 16,Nat.pow_mul]
         generalize c^ee ex b j=a
         simp only[Nat.pow_succ,Nat.pow_zero,Nat.one_mul,Nat.mul_assoc]
        rw[e]at h2
        exact h2,h.2.1,fun h1=>⟨h.2.2 h1,fun h3 h4=>by omega⟩⟩)
       have HA16:=hide ha16
       clear Z1 Z2 Z3 Z4 X hS k1 k2 k3 k4 hcs ha16
       go_wp2_with fail
       rw[hkf.out]
       clear hkf
       go_loopw [112] (fun iv wx=>∃(jj:Nat) (ps:List Nat),iv=i64 jj∧jj≤15∧XS w0 w wx o po tb 17 xs5 ys ps (ExpQ (fun L=>InR a16 L M) (fun L=>Below' L M∧(1≤kk→kk≤jj→InR (c^kk) L M)) M c 15)∧Blk wx sb 3 [i64 4,i64 0]) (fun iv _=>15-(intOf iv).toNat)
       case atStart=>exact⟨0,r4,rfl,by omega,Y,hS4⟩
       case round=>
        clear Y hS4
        obtain⟨jj,ps8,rfl,hjj,X,hS⟩:=hrel
        by_cases hjl:jj<15
        ·have rr1:=X.row.at jj (by rw[HYL.out];exact hjl)
         rw[HXY2.out jj hjl]at rr1
         obtain⟨xj,hxj⟩:∃xj,xj=nth xs5 (jj+1):=⟨_,rfl⟩
         rw[←hxj]at rr1
         have CA:=hide (fun wd (md:Mod [] wr wd)=>c_xasg (kk:=kk) hjl EXT.out (X.mod md))
         rw[←hxj]at CA
         have wj:IntKind.i64.wrap ((jj:Int)+1)=((jj+1:Nat):Int):=by rw[IntKind.wrap_i64];omega
         have wj2:IntKind.u64.wrap ((jj+1:Nat):Int)=((jj+1:Nat):Int):=by rw[IntKind.wrap_u64];omega
         have wj3:IntKind.u64.wrap ((jj:Int)+1)=((jj+1:Nat):Int):=by rw[IntKind.wrap_u64];omega
         have hjl':(jj:Int)<15:=by omega
         have hSd:=hS.mod ((Mod.refl [] wr).drew) (by simp)
         clear hxj X hS
         go_wp2_with fail
         go_region_with (first|(go_at_call 121;refine(c_ctEq kk (jj+1) _).mono ?_;rintro e w' ⟨rfl,rfl⟩)|(go_at_call 120;refine(CA.out _ ((Mod.refl [] _).drew)).mono ?_;rintro e w2 ⟨ps',rfl,X2,k2⟩))
         all_goals
          have hS2:=k2 _ _ _ (by decide) (by decide) hSd
          go_wp2_with fail
          go_roundw
          case rel=>exact⟨jj+1,ps',by go_num,by omega,X2,hS2⟩
          case measure=>simp[intOf];omega
        ·obtain rfl:jj=15:=by omega
         have Y:=X.turn (Q':=ExpQ (fun L=>InR a16 L M) (fun L=>Below' L M∧(kk≠0→InR (c^kk) L M)) M c 15) (fun jx Lx _ h=>⟨h.1,h.2.1,fun h1=>⟨(h.2.2 h1).1,fun h2=>(h.2.2 h1).2 (by omega) (by omega)⟩⟩)
         have hnb:=notB_le (eqB kk 0)
         have heb:=eqB_le kk 0
         clear X hjl
         go_wp2_with fail
         refine(c_xmul h0 hM HO.out go gpo EXT.out Y).mono ?_
         rintro e z5 ⟨r5,rfl,Z5,k5⟩
         go_wp2_with fail
         refine(c_ctEq kk 0 _).mono ?_
         rintro e w' ⟨rfl,rfl⟩
         go_wp2_with fail
         refine(c_not _ heb _).mono ?_
         rintro e w' ⟨rfl,rfl⟩
         go_wp2_with fail
         refine(c_xout EXT.out Z5).mono ?_
         rintro e z6 ⟨r6,rfl,Z6,k6⟩
         have hS6:=k6 _ _ _ (by decide) (by decide) (k5 _ _ _ (by decide) (by decide) hS)
         have Y6:=Z6.turn (Q':=ExpQ (fun L=>InR (c^ee ex b (j+1)) L M) (fun L=>Below' L M) M c 15) (fun jx Lx _ h=>⟨fun h1=>by
          have h2:=h.1 h1
          rw[HEK.out,Nat.pow_add,←HA16.out];exact h2,h.2.1,h.2.2⟩)
         clear Y Z5 Z6 k5 k6 hS hnb heb
         go_wp2_with fail
         go_roundw
         case rel=>exact⟨j+1,r6,by go_num,by omega,Y6,hS6⟩
         case measure=>simp[intOf];omega
      ·obtain rfl:j=2:=by omega
       rw[←HNX.out]at X
       clear hj2
       go_wp2_with fail
       go_roundw
       case rel=>exact⟨i+1,_,by go_num,by omega,X⟩
       case measure=>simp[intOf];omega
    ·obtain rfl:i=E.length:=by omega
     rw[List.take_length]at X
     obtain⟨Lf,Rf,nf,qf⟩:=X.tab.nat 0 (by omega)
     have gf:=(X.tab.gx 0 (by omega)).2
     have IF:=qf.1 rfl
     rw[X.x0]at nf
     have hk0:=X.k0
     have hfr:=X.frame
     have Bf:=X.base0 h0 go gpo
     clear X
     go_wp2_with fail
     refine(c_montRed w0 wr n m y q o _ M Q Lf Rf Bf hM HO.out nf IF.below go gf).mono ?_
     rintro e wz ⟨pz,Xz,Rz,rfl,mz,nz,kz,gz,bz,ez⟩
     have EZ:=hide (InR.red HO.out hM.big IF bz ez)
     have mz2:Mod [o,po] w wz:=Mod.trans (U:=[o,po]) hfr mz (fun a ha _=>ha) (fun a ha hl=>by
      simp at ha
      rcases hk0 with h1|h1
      ·rw[h1]at ha;simp[ha]
      ·rcases ha with ha|ha
       ·simp[ha]
       ·omega)
     have kz2:Kept w po pz:=by
      have:=hfr.size
      rcases kz with h1|h1
      ·rw[h1];exact hk0
      ·exact .inr (by omega)
     clear ez hk0 hfr
     go_wp2_with fail
     go_ret
     exact⟨pz,Xz,Rz,rfl,mz2,nz,kz2,gz,bz,EZ.out⟩
end Go.Proofs.YtfgmnbmnpihjdaaGreatDoor
