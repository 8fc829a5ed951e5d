/- Lemmas of mine for the walk and its plain laws: NatO NatP NatQ NatR -/
import Derived.Test.YtfgmnbmnpihjdaaGreatDoorM15
set_option linter.all false
set_option exponentiation.threshold 7000000
set_option maxHeartbeats 4000000
namespace Go.Proofs.YtfgmnbmnpihjdaaGreatDoor
open Go.RowKit
theorem Mod.keep{w0 w w':World}{S:List Nat}(h:Mod [] w0 w)(m:Mod S w w')(hS:∀x,x∈S→w0.heap.size≤x):Mod [] w0 w':=
 Mod.trans (U:=[]) h m (by simp) (fun x hx hlt=>by have:=hS x hx;omega)
theorem Mod.keep2{w0 w w':World}{x p:Nat}(h:Mod [] w0 w)(m:Mod [x,p] w w')(hx:w0.heap.size≤x)(hp:w0.heap.size≤p):Mod [] w0 w':=
 h.keep m (by intro a ha;simp at ha;omega)
theorem Mod.keep1{w0 w w':World}{p:Nat}(h:Mod [] w0 w)(m:Mod [p] w w')(hp:w0.heap.size≤p):Mod [] w0 w':=
 h.keep m (by intro a ha;simp at ha;omega)
theorem Mod.then{w0 w w':World}(h:Mod [] w0 w)(m:Mod [] w w'):Mod [] w0 w':=h.keep m (by simp)
set_option maxRecDepth 100000 in
theorem c_resetFor(x p m y q k:Nat)(odd:Bool)(r:Value)(L R M Q:List Nat)(w:World)(h:NatIs w x p L R)(hm:MHead w m y odd k r)(hy:NatIs w y q M Q) :
 Calls Tryz.prog 110 #[ptr x,ptr m] w fun e w'=>
  ∃p' R',e=.returned (ptr x)∧Mod [x,p] w w'∧NatIs w' x p' (List.replicate M.length 0) R'∧Kept w p p':=by
 have hc:=hm.c0
 have hc2:=hy.cell
 have hcap:=hy.cap
 go_enter Tryz.func110,Tryz.ntmps110
 go_wp2_with fail
 refine(c_reset x p M.length L R _ h (by omega)).mono ?_
 rintro e w1 ⟨p',R',rfl,m1,hx1,k1⟩
 go_wp2_with fail
 go_ret
 exact⟨p',R',rfl,m1,hx1,k1⟩
def geqB(a b:Nat):Nat:=if b≤a then 1 else 0
theorem geq_subC{X Y:List Nat}(hX:Words X)(hY:Words Y)(h:Y.length=X.length):notB (subC X Y X.length)=geqB (val X) (val Y):=by
 rw[subC_whole hX hY h]
 unfold geqB notB
 by_cases hlt:val X<val Y
 ·rw[if_pos hlt,if_neg (by omega)]
 ·rw[if_neg hlt,if_pos (by omega)]
set_option maxRecDepth 100000 in
theorem c_cmpGeq(x y px py:Nat)(Lx Rx Ly Ry:List Nat)(w:World)(hx:NatIs w x px Lx Rx)(hy:NatIs w y py Ly Ry)(hlen:Ly.length=Lx.length)(wx:Words Lx)(wy:Words Ly) :
 Calls Tryz.prog 112 #[ptr x,ptr y] w fun e w'=>e=.returned (u64 (geqB (val Lx) (val Ly)))∧Mod [] w w':=by
 have hcx:=hx.cell
 have hcy:=hy.cell
 have hcap:=hx.cap
 have hcapy:=hy.cap
 have HG:=hide (geq_subC wx wy hlen)
 rw[hlen]at hcy
 have H1:=hide hlen
 have hle:Lx.length≤Lx.length+Ry.length:=by omega
 clear hlen
 go_enter Tryz.func112,Tryz.ntmps112
 go_wp2_with fail
 go_loopw [8,9] (fun c i wr=>∃k:Nat,k≤Lx.length∧i=i64 k∧c=u64 (subC Lx Ly k)∧Mod [] w wr) (fun _ i _=>Lx.length-(intOf i).toNat)
 case atStart=>exact⟨0,Nat.zero_le _,rfl,rfl,Mod.refl _ _⟩
 case round=>
  obtain⟨k,hk,rfl,rfl,hm⟩:=hrel
  have hc1:=subC_le Lx Ly k
  by_cases hlt:k<Lx.length
  ·have h1:=(hx.mod hm (by simp) (by simp)).at k hlt
   have h2:=(hy.mod hm (by simp) (by simp)).at k (by rw[H1.out];exact hlt)
   have hs:Hid (subHi (nth Lx k) (nth Ly k) (subC Lx Ly k)=subC Lx Ly (k+1)):=hide rfl
   have hm2:=hm.drew
   clear hm
   go_wp2_with fail
   go_region_with (first|(go_at_call 138;refine(c_Sub _ _ _ hc1 _).mono ?_;rintro e w' ⟨rfl,rfl⟩))
   all_goals go_wp2_with fail
   all_goals go_roundw
   all_goals first
    |exact⟨k+1,by omega,by go_num,ret_word hs.out,hm2⟩
    |(simp[intOf];omega)
  ·obtain rfl:k=Lx.length:=by omega
   go_wp2_with fail
   refine(c_not _ hc1 _).mono ?_
   rintro e w' ⟨rfl,rfl⟩
   rw[HG.out]
   go_wp2_with fail
   go_ret
   exact⟨rfl,hm⟩
set_option maxRecDepth 100000 in
theorem c_ModSize(m y q k:Nat)(odd:Bool)(r:Value)(M Q:List Nat)(w:World)(hm:MHead w m y odd k r)(hy:NatIs w y q M Q)(wM:Words M) :
 Calls Tryz.prog 117 #[ptr m] w fun e w'=>e=.returned (i64 ((blen (val M)+7)/8))∧w=w':=by
 obtain⟨n,hn⟩:∃n,n=blen (val M):=⟨_,rfl⟩
 have hb:n≤6400000:=by
  obtain⟨top,ht⟩:∃t:Nat,t=6400000:=⟨_,rfl⟩
  rw[hn,←ht]
  refine blen_le ?_
  have h1:=val_lt wM
  have h2:=hy.cap
  have h3:W^M.length=2^(64*M.length):=by rw[W_eq,Nat.pow_mul]
  have h4:2^(64*M.length)≤2^top:=Nat.pow_le_pow_right (by omega) (by omega)
  rw[h3]at h1
  exact Nat.lt_of_lt_of_le h1 h4
 obtain⟨s,hs⟩:∃s,s=(n+7)/8:=⟨_,rfl⟩
 have C:=hide (c_BitLen m y q k odd r M Q w hm hy wM)
 rw[←hn]at C ⊢
 rw[←hs]
 have e1:Hid (((n:Int)+7)/8=(s:Int)):=hide (by omega)
 clear hn hs
 go_enter Tryz.func117,Tryz.ntmps117
 go_wp2_with fail
 refine C.out.mono ?_
 rintro e w' ⟨rfl,rfl⟩
 go_wp2_with fail
 rw[e1.out]
 go_ret
 exact⟨rfl,rfl⟩
set_option maxRecDepth 100000 in
theorem c_setBytes_over(x p n bb o c:Nat)(R B:List Nat)(w:World)(h:NatIs w x p (List.replicate n 0) R)(hb:CellsB w bb o B)(hB:Bytes B)(hc:B.length≤c)(hne:bb≠p)(hover:8*n<B.length)(hbig:B.length≤1000000) :
 Calls Tryz.prog 111 #[ptr x,sl bb o B.length c] w fun e w'=>
  ∃er,e=.returned (.iface 173 (ptr er))∧Mod [p] w w':=by
 have hcap:=h.cap
 rw[List.length_replicate]at hcap
 have h00:bb<w.heap.size:=hb.lt (by omega)
 go_enter Tryz.func111,Tryz.ntmps111
 go_wp2_with fail
 go_loopw [5,6] (fun i k wr=>∃(jn kn:Nat) (V:List Nat),i=i64 jn∧k=i64 kn∧kn≤n∧Hid (SB B V n kn 0 jn)∧jn≤B.length∧Mod [p] w wr∧NatIs wr x p V R) (fun i _ _=>(intOf i).toNat)
 case atStart=>exact⟨B.length,0,_,rfl,rfl,by omega,hide (SB.start B n),by omega,Mod.refl _ _,h⟩
 case round=>
  obtain⟨j,k,V,rfl,rfl,hk,hS,hj,hm,hx⟩:=hrel
  have hVl:=hS.out.len
  have hl:=hS.out.left
  have hcx:=hx.cell
  rw[hVl]at hcx
  by_cases hlt:k<n
  ·have h8:8≤j:=by omega
   obtain⟨i,hij⟩:∃i,j=i+8:=⟨j-8,by omega⟩
   have C:=hide (c_beUint' bb o i (j-i) (c-i) B wr.drew ((hb.mod hm (by simpa using hne)).drew) hB (by omega) (by omega) (by omega))
   have hcp:=hx.at k (by omega)
   have hfp:=hx.row.frozen k
   have e8:IntKind.i64.wrap ((j:Int)-8)=(i:Int):=by rw[IntKind.wrap_i64];omega
   have g1:(i:Int)≤(j:Int):=by omega
   have g2:¬c=i:=by omega
   have g3:(j:Int)≤(c:Int):=by omega
   have hS2:=hide ((show SB B V n k 0 (i+8)by rw[←hij];exact hS.out).word hB hlt)
   have HIJ:=hide hij
   have HVL:=hide hVl
   clear hij hl hVl hover
   go_wp2_with fail
   go_region_with (go_at_call 137;refine C.out.mono ?_;rintro e w' ⟨rfl,k2,rfl⟩)
   all_goals
    have hm2:Mod [p] w ((wr.drewN (1+k2)).setCell ⟨p,k,none⟩ (u64 (be8 B i))):=(hm.drewN _).setCell _ _ (by simp)
    have hx2:NatIs ((wr.drewN (1+k2)).setCell ⟨p,k,none⟩ (u64 (be8 B i))) x p (V.set k (be8 B i)) R:=
     (hx.drewN (1+k2)).put (by simp) (Below.heap_setCell _ _ _ _ hx.ne) (row_set (hx.drewN (1+k2)).row (by rw[HVL.out];exact hlt))
    go_wp2_with fail
    go_roundw
    case rel=>exact⟨i,k+1,_,rfl,by go_num,by omega,hS2,by have:=HIJ.out;omega,hm2,hx2⟩
    case measure=>have:=HIJ.out;simp[intOf];omega
  ·have hj0:(0:Int)<(j:Int):=by omega
   clear hl hover hVl hS
   go_wp2_with fail
   go_loop [5,7] (fun i s=>i=i64 j∧s=i64 0) (fun _ _=>0)
   case atStart=>exact⟨rfl,rfl⟩
   case round=>
    obtain⟨rfl,rfl⟩:=hrel
    go_wp2_with fail
    refine(c_errNew _ _).mono ?_
    rintro e w2 ⟨er,rfl,m2⟩
    have m02:Mod [p] w w2:=Mod.trans (U:=[p]) hm m2 (fun a ha _=>ha) (by simp)
    go_wp2_with fail
    go_ret
    exact⟨er,rfl,m02⟩
theorem c_setBytesF(x p n:Nat)(v:Value)(R B:List Nat)(w:World)(h:NatIs w x p (List.replicate n 0) R)(hb:SliceB w v B)(hB:Bytes B)(hne:Apart v p)(hfit:B.length≤8*n)(hn:0<B.length) :
 Calls Tryz.prog 111 #[ptr x,v] w fun e w'=>
  ∃V,e=.returned .nilIface∧Mod [p] w w'∧NatIs w' x p V R∧V.length=n∧Words V∧val V=bval B:=by
 rcases hb with⟨rfl,rfl⟩|⟨a,c,rfl,rfl⟩|⟨b,o,c,rfl,hc,hb⟩
 ·simp at hn
 ·simp at hn
 ·exact c_setBytes x p n b o c R B w h hb hB hc (hne _ _ _ _ rfl) hfit
theorem SliceB.isSlice{w:World}{v:Value}{B:List Nat}(h:SliceB w v B):∃a c,v=.slice a B.length c:=by
 rcases h with⟨rfl,rfl⟩|⟨a,c,rfl,rfl⟩|⟨b,o,c,rfl,hc,hb⟩
 ·exact⟨_,_,rfl⟩
 ·exact⟨_,_,rfl⟩
 ·exact⟨_,_,rfl⟩
theorem apart_kept{v:Value}{w:World}{p p1:Nat}(hp:Apart v p)(hnew:∀b o n c,v=sl b o n c→b<w.heap.size)(k1:Kept w p p1):Apart v p1:=by
 intro b o n c hv
 have h0:=hp _ _ _ _ hv
 have h2:=hnew _ _ _ _ hv
 rcases k1 with k1|k1
 ·rw[k1];exact h0
 ·omega
set_option maxRecDepth 100000 in
theorem c_SetBytes(x p m y q k:Nat)(odd:Bool)(r v:Value)(L R M Q B:List Nat)(w:World)(h:NatIs w x p L R)(hm:MHead w m y odd k r)(hy:NatIs w y q M Q)(wM:Words M)
 (hb:SliceB w v B) (hB:Bytes B) (hx:Apart v x) (hp:Apart v p) (hnew:∀b o n c,v=sl b o n c→b<w.heap.size) (hfit:B.length≤8*M.length) (hn:0<B.length)
 (d1:y≠x) (d2:q≠p) (d3:m≠x) :
 Calls Tryz.prog 85 #[ptr x,v,ptr m] w fun e w'=>
  (bval B<val M→∃p' V R',e=.returned (.tuple #[ptr x,.nilIface])∧Mod [x,p] w w'∧NatIs w' x p' V R'∧Kept w p p'∧Below' V M∧val V=bval B) ∧
  (val M≤bval B→∃er,e=.returned (.tuple #[.pointer none,.iface 173 (ptr er)])∧Mod [x,p] w w'):=by
 obtain⟨a,c,hv⟩:=hb.isSlice
 have d4:q≠x:=hy.row.ne h.head (by decide)
 have d5:y≠p:=hy.head.ne h.row (by decide)
 have d6:m≠p:=Blk.ne hm h.row (by decide)
 have hqlt:=hy.plt
 have H:∀w1,Mod [x,p] w w1→∀p1 R1,NatIs w1 x p1 (List.replicate M.length 0) R1→Kept w p p1→Hid (SliceB w1 v B∧Apart v p1∧MHead w1 m y odd k r∧NatIs w1 y q M Q∧q≠p1):=by
  intro w1 m1 p1 R1 h1 k1
  refine hide ⟨hb.mod m1 (by simp;exact⟨hx,hp⟩),apart_kept hp hnew k1,Blk.mod hm m1 (by simp;exact⟨d3,d6⟩),hy.mod m1 (by simp;exact⟨d1,d5⟩) (by simp;exact⟨d4,d2⟩),?_⟩
  rcases k1 with hk|hk<;>omega
 obtain⟨bv,hbv⟩:∃bv,bv=bval B:=⟨_,rfl⟩
 have HF:=hide hfit
 have HN:=hide hn
 subst hv
 clear hfit hn
 rw[←hbv]
 go_enter Tryz.func85,Tryz.ntmps85
 go_wp2_with fail
 refine(c_resetFor x p m y q k odd r L R M Q _ h hm hy).mono ?_
 rintro e w1 ⟨p1,R1,rfl,m1,h1,k1⟩
 have HH:=H w1 m1 p1 R1 h1 k1
 go_wp2_with fail
 refine(c_setBytesF x p1 M.length _ R1 B _ h1 HH.out.1 hB HH.out.2.1 HF.out HN.out).mono ?_
 rintro e w2 ⟨V,rfl,m2,h2,hVl,hVw,hVv⟩
 have hp1x:p1≠x:=h1.ne.symm
 have hm2:MHead w2 m y odd k r:=Blk.mod HH.out.2.2.1 m2 (by simp;exact Blk.ne HH.out.2.2.1 h1.row (by decide))
 have hy2:NatIs w2 y q M Q:=HH.out.2.2.2.1.mod m2 (by simp;exact HH.out.2.2.2.1.head.ne h1.row (by decide)) (by simp;exact HH.out.2.2.2.2)
 have m12:Mod [x,p] w w2:=Mod.trans (U:=[x,p]) m1 m2 (fun a ha _=>ha) (fun a ha hlt=>by
  simp at ha
  rcases k1 with hk|hk
  ·simp[ha,hk]
  ·omega)
 have hc0:=hm2.c0
 have C:=hide (c_cmpGeq x y p1 q V R1 M Q w2 h2 hy2 hVl.symm hVw wM)
 rw[hVv,←hbv]at C
 have HV:=hide (And.intro hVl (hVv.trans hbv.symm))
 clear hVl hVv hbv
 obtain⟨g,hg⟩:∃g,g=geqB bv (val M):=⟨_,rfl⟩
 rw[←hg]at C
 have hgc:(g=0∧bv<val M)∨(g=1∧val M≤bv):=by
  rw[hg];unfold geqB
  by_cases h:val M≤bv
  ·exact .inr ⟨if_pos h,h⟩
  ·exact .inl ⟨if_neg h,by omega⟩
 clear hg
 go_wp2_with fail
 refine C.out.mono ?_
 rintro e w3 ⟨rfl,m3⟩
 have m13:Mod [x,p] w w3:=Mod.trans (U:=[x,p]) m12 m3 (fun a ha _=>ha) (by simp)
 have h3:=h2.mod m3 (by simp) (by simp)
 rcases hgc with⟨rfl,hlt⟩|⟨rfl,hge⟩
 ·have HL:=hide hlt
  clear hlt
  go_wp2_with fail
  go_ret2
  exact⟨fun _=>⟨p1,V,R1,rfl,m13,h3,k1,⟨HV.out.1,hVw,by rw[HV.out.2];exact HL.out⟩,HV.out.2⟩,fun hh=>by have:=HL.out;omega⟩
 ·have HL:=hide hge
  clear hge
  go_wp2_with fail
  refine(c_errNew _ _).mono ?_
  rintro e w4 ⟨er,rfl,m4⟩
  have m14:Mod [x,p] w w4:=Mod.trans (U:=[x,p]) m13 m4 (fun a ha _=>ha) (by simp)
  go_wp2_with fail
  go_ret2
  exact⟨fun hh=>by have:=HL.out;omega,fun _=>⟨er,rfl,m14⟩⟩
def subV(a b m:Nat):Nat:=if b≤a then a-b else a+m-b
theorem sub_row{X V M:List Nat}(hX:Words X)(hV:Words V)(hM:Words M)(h1:V.length=X.length)(h2:M.length=X.length)(hb:val V≤val X+val M) :
 val (selW (subC X V X.length) (subL X V X.length) (addL (subL X V X.length) M X.length))=subV (val X) (val V) (val M):=by
 have e1:=subC_whole hX hV h1
 have e2:=sub_whole hX hV h1
 have hlX:=val_lt hX
 have hlS:=subL_length X V X.length
 unfold subV
 by_cases h:val X<val V
 ·rw[if_pos h]at e1
  rw[e1]at e2 ⊢
  rw[if_neg (by omega)]
  show val (addL (subL X V X.length) M X.length)=_
  have e3:=add_whole (X:=subL X V X.length) (Y:=M) (by rw[hlS];exact h2)
  rw[hlS]at e3
  have hc:=addC_le (subL_words (Y:=V) hX X.length) hM X.length
  have hlM:=val_lt hM
  rw[h2]at hlM
  have hc1:addC (subL X V X.length) M X.length=1:=by
   rcases (by omega:addC (subL X V X.length) M X.length=0∨addC (subL X V X.length) M X.length=1)with h0|h0
   ·rw[h0]at e3
    have hl:=val_lt (addL_words (Y:=M) (subL_words (Y:=V) hX X.length) X.length)
    rw[addL_length,hlS]at hl
    omega
   ·exact h0
  rw[hc1]at e3
  omega
 ·rw[if_neg h]at e1
  rw[e1]at e2 ⊢
  rw[if_pos (by omega)]
  show val (subL X V X.length)=_
  omega
theorem MHead.drew{w:World}{m x k:Nat}{odd:Bool}{r:Value}(h:MHead w m x odd k r):MHead w.drew m x odd k r:=h
set_option maxRecDepth 100000 in
theorem c_SubM(w0 w:World)(n m y q x p z pz:Nat)(M Q L R V S:List Nat)(h0:Mod [] w0 w)(hM:ModIs w0 n m y q M Q)(hx:NatIs w x p L R)(hz:NatIs w z pz V S)(gp:w0.heap.size≤p)
 (wL:Words L) (lL:L.length=M.length) (wV:Words V) (lV:V.length=M.length) (hb:val V≤val L+val M) :
 Calls Tryz.prog 91 #[ptr x,ptr z,ptr m] w fun e w'=>∃L',e=.returned (ptr x)∧Mod [p] w w'∧NatIs w' x p L' R∧Words L'∧L'.length=M.length∧val L'=subV (val L) (val V) (val M):=by
 have hV:=hide (sub_row wL wV hM.words (by omega) (by omega) hb)
 have hc:=subC_le L V L.length
 have hp0:p<w.heap.size:=hx.plt
 have hx0:=hx.xlt
 have HLV:Hid (V.length=L.length):=hide (by omega)
 have HLM:Hid (M.length=L.length):=hide (by omega)
 clear hb lL lV
 go_enter Tryz.func91,Tryz.ntmps91
 go_wp2_with fail
 refine(c_sub x z p pz L R V S _ hx hz HLV.out).mono ?_
 rintro e w1 ⟨rfl,m1,h1⟩
 go_wp2_with fail
 refine(c_NewNat _).mono ?_
 rintro e w2 ⟨t,pt,rfl,m2,ht2,g1,g2⟩
 have s1:=m1.size
 have hx2:=h1.mod m2 (by simp) (by simp)
 go_wp2_with fail
 refine(c_set' t pt x p [] _ _ R _ ht2 hx2 (by omega) (by omega)).mono ?_
 rintro e w3 ⟨pt3,Rt,rfl,m3,ht3,k3⟩
 have s2:=m2.size
 have hpt3:w1.heap.size≤pt3:=k3.ge g2 s2
 have m13:Mod [p] w w3:=Mod.trans (U:=[p]) (Mod.trans (U:=[p]) m1 m2 (fun a ha _=>ha) (by simp)) m3 (fun a ha _=>ha) (by simp;omega)
 have h03:Mod [] w0 w3:=h0.keep1 m13 gp
 have hM3:=hM.mod h03
 obtain⟨o,k,r,hh⟩:=hM3.head
 have hc0:=hh.c0
 have hx3:=hx2.mod m3 (by simp;omega) (by simp;omega)
 go_wp2_with fail
 refine(c_add t y pt3 q _ Rt M Q _ ht3 hM3.nat (by rw[subL_length];exact HLM.out) (subL_words (Y:=V) wL _) hM.words).mono ?_
 rintro e w4 ⟨rfl,m4,ht4⟩
 have m14:Mod [p] w w4:=Mod.trans (U:=[p]) m13 m4 (fun a ha _=>ha) (by simp;omega)
 have hx4:=hx3.mod m4 (by simp;omega) (by simp;omega)
 go_wp2_with fail
 refine(c_assign x t p pt3 (subC L V L.length) (subL L V L.length) R (addL (subL L V L.length) M (subL L V L.length).length) Rt _ hx4 ht4 (addL_length _ _ _) (subL_words wL _) (addL_words (subL_words wL _) _) hc).mono ?_
 rintro e w5 ⟨rfl,m5,hx5⟩
 have m15:Mod [p] w w5:=Mod.trans (U:=[p]) m14 m5 (fun a ha _=>ha) (fun a ha _=>ha)
 go_wp2_with fail
 go_ret
 have hsl:=subL_length L V L.length
 have hfin:val (selW (subC L V L.length) (subL L V L.length) (addL (subL L V L.length) M (subL L V L.length).length))=subV (val L) (val V) (val M):=by rw[hsl];exact hV.out
 refine⟨_,rfl,m15,hx5,?_,?_,hfin⟩
 ·unfold selW;split
  ·exact subL_words (Y:=V) wL _
  ·exact addL_words (subL_words (Y:=V) wL _) _
 ·unfold selW;split
  ·rw[hsl];exact HLM.out.symm
  ·rw[addL_length,hsl];exact HLM.out.symm
theorem c_ModNat2(w0 w:World)(n m y q:Nat)(M Q:List Nat)(h0:Mod [] w0 w)(hM:ModIs w0 n m y q M Q) :
 Calls Tryz.prog 79 #[ptr m] w fun e w'=>∃x p R,e=.returned (ptr x)∧Mod [] w w'∧NatIs w' x p M R∧w.heap.size≤x∧w.heap.size≤p:=by
 have hM1:=hM.mod h0
 obtain⟨o,k,r,hm⟩:=hM1.head
 have hx:=hM1.nat
 go_enter Tryz.func79,Tryz.ntmps79
 go_wp2_with fail
 refine(c_NewNat _).mono ?_;rintro e w1 ⟨t,pt,rfl,m1,ht1,g1,g2⟩
 have hm1:MHead w1 m y o k r:=Blk.mod hm m1 (by simp)
 have hc:=hm1.c0
 have hx1:=hx.mod m1 (by simp) (by simp)
 have l1:=hx.xlt
 have l2:=hx.plt
 go_wp2_with fail
 refine(c_set t pt y q _ _ M Q _ ht1 hx1 (by omega) (by omega) (by omega) (by omega)).mono ?_
 rintro e w2 ⟨q2,S,rfl,m2,hy2,k2⟩
 have m12:Mod [] w w2:=Mod.trans (U:=[]) m1 m2 (by simp) (by simp;omega)
 have hq2:w.heap.size≤q2:=k2.ge g2 m1.size
 go_wp2_with fail
 go_ret
 exact⟨t,q2,S,rfl,m12,hy2,g1,hq2⟩
def oneL(n:Nat):List Nat:=(List.replicate n 0).set 0 1
theorem oneL_len(n:Nat):(oneL n).length=n:=by simp[oneL]
theorem oneL_words(n:Nat):Words (oneL n):=(Words.replicate0 n).set 0 (by rw[W_eq];omega)
theorem oneL_val{n:Nat}(h:0<n):val (oneL n)=1:=by
 obtain⟨k,rfl⟩:∃k,n=k+1:=⟨n-1,by omega⟩
 simp[oneL,List.replicate_succ,val_cons,val_replicate0]
set_option maxRecDepth 100000 in
theorem c_SubOne(w0 w:World)(n m y q x p:Nat)(M Q L R:List Nat)(h0:Mod [] w0 w)(hM:ModIs w0 n m y q M Q)(hx:NatIs w x p L R)(gx:w0.heap.size≤x)(gp:w0.heap.size≤p)
 (wL:Words L) (lL:L.length=M.length) (hL:1≤val L) :
 Calls Tryz.prog 118 #[ptr x,ptr m] w fun e w'=>∃L',e=.returned (ptr x)∧Mod [p] w w'∧NatIs w' x p L' R∧Words L'∧L'.length=M.length∧val L'=val L-1:=by
 have hn:=len_pos hM.big
 have hx0:=hx.xlt
 have hp0:=hx.plt
 have hroom:=hM.room
 go_enter Tryz.func118,Tryz.ntmps118
 go_wp2_with fail
 refine(c_NewNat _).mono ?_
 rintro e w1 ⟨t,pt,rfl,m1,ht1,g1,g2⟩
 have hM1:=hM.mod (h0.then m1)
 obtain⟨o,k,r,hh⟩:=hM1.head
 go_wp2_with fail
 refine(c_ExpandFor t pt m y q k o r [] _ M Q _ ht1 hh hM1.nat (by simp)).mono ?_
 rintro e w2 ⟨pt2,Rt,rfl,m2,ht2,k2⟩
 rw[padTo_nil]at ht2
 have s1:=m1.size
 have hpt2:w.heap.size≤pt2:=k2.ge g2 s1
 have m12:Mod [] w w2:=Mod.trans (U:=[]) m1 m2 (by simp) (by simp;omega)
 have hct:=ht2.cell
 rw[List.length_replicate]at hct
 have hc0:=ht2.at 0 (by simp;omega)
 have hf0:=ht2.row.frozen 0
 rw[nth_replicate0]at hc0
 have hn':(0:Int)<(M.length:Int):=by omega
 have ht3:NatIs (w2.setCell ⟨pt2,0,none⟩ (.int .u64 1)) t pt2 (oneL M.length) Rt:=
  ht2.put (by simp[oneL]) (Below.heap_setCell _ _ _ _ ht2.ne) (row_set ht2.row (by simp;omega))
 have m13:Mod [] w (w2.setCell ⟨pt2,0,none⟩ (.int .u64 1)):=m12.setCell _ _ (by simp;omega)
 have hx3:=hx.mod m13 (by simp) (by simp)
 have C:=hide (c_SubM w0 (w2.setCell ⟨pt2,0,none⟩ (.int .u64 1)) n m y q x p t pt2 M Q L R (oneL M.length) Rt (h0.then m13) hM hx3 ht3 gp wL lL (oneL_words _) (oneL_len _) (by rw[oneL_val hn];omega))
 rw[oneL_val hn]at C
 have hv:Hid (subV (val L) 1 (val M)=val L-1):=hide (if_pos hL)
 clear hn hL hroom
 go_wp2_with fail
 refine C.out.mono ?_
 rintro e w4 ⟨L',rfl,m4,h4,wL',lL',eL'⟩
 have m14:Mod [p] w w4:=Mod.trans (U:=[p]) m13 m4 (by simp) (fun a ha _=>ha)
 have E:=hide (eL'.trans hv.out)
 clear eL'
 go_wp2_with fail
 go_ret
 exact⟨L',rfl,m14,h4,wL',lL',E.out⟩
theorem Kept.ne{w:World}{p p' q:Nat}(h:Kept w p p')(hq:q<w.heap.size)(hne:q≠p):q≠p':=by
 rcases h with h|h
 ·rw[h];exact hne
 ·omega
theorem c_montB(w0 w:World)(n m y q x px a pa b pb:Nat)(M Q L R A Ra B Rb:List Nat)(h0:Mod [] w0 w)(hM:ModIs w0 n m y q M Q)(ho:val M%2=1)(hx:NatIs w x px L R)(ha:NatIs w a pa A Ra)(hb:NatIs w b pb B Rb)
 (bA:Below' A M) (hbl:B.length=M.length) (wB:Words B) (gx:w0.heap.size≤x) (gp:w0.heap.size≤px) :
 Calls Tryz.prog 115 #[ptr x,ptr a,ptr b,ptr m] w fun e w'=>
  ∃p' X R',e=.returned (ptr x)∧Mod [x,px] w w'∧NatIs w' x p' X R'∧Kept w px p'∧w0.heap.size≤p'∧Below' X M∧(val X*W^M.length)%val M=(val A*val B)%val M:=by
 obtain⟨k,rr,qr,XR,S,hh,hk,-,-,-,-,-⟩:=(hM.mod h0).odd ho
 have hl:=hM.nat.xlt
 have hq:=hM.nat.plt
 have hs:=h0.size
 refine(c_montMul x px a pa b pb m y q k true (ptr rr) L R A Ra B Rb M Q w hx ha hb hh (hM.mod h0).nat bA hbl wB hM.words (len_pos hM.big) hM.room hk (by omega) (by omega)).mono ?_
 rintro e w' ⟨p',X,R',rfl,m1,h1,k1,m2⟩
 exact⟨p',X,R',rfl,m1,h1,k1,k1.ge gp hs,m2.below,m2.eq⟩
set_option maxRecDepth 100000 in
theorem c_montRep(w0 w:World)(n m y q x p:Nat)(M Q L R:List Nat)(h0:Mod [] w0 w)(hM:ModIs w0 n m y q M Q)(ho:val M%2=1)(hx:NatIs w x p L R)(bL:Below' L M)(gx:w0.heap.size≤x)(gp:w0.heap.size≤p) :
 Calls Tryz.prog 113 #[ptr x,ptr m] w fun e w'=>
  ∃p' X R',e=.returned (ptr x)∧Mod [x,p] w w'∧NatIs w' x p' X R'∧Kept w p p'∧w0.heap.size≤p'∧Below' X M∧val X=(val L*W^M.length)%val M:=by
 obtain⟨k,rr,qr,XR,S,hh,hk,hrr,bR,vR,-,-⟩:=(hM.mod h0).odd ho
 have hc3:=hh.c3
 have C:=hide (c_montB w0 w n m y q x p x p rr qr M Q L R L R XR S h0 hM ho hx hx hrr bL bR.len bR.words gx gp)
 have H:Hid (∀X,Below' X M→(val X*W^M.length)%val M=(val L*val XR)%val M→val X=(val L*W^M.length)%val M):=by
  refine hide fun X hX h=>?_
  refine mod_cancel_lt (cop_W ho M.length) hX.lt (Nat.mod_lt _ (by have:=hM.big;omega)) ?_
  rw[h,vR,Nat.mul_mod_mod,Nat.mod_mul_mod,Nat.mul_assoc]
 clear bL ho
 go_enter Tryz.func113,Tryz.ntmps113
 go_wp2_with fail
 refine C.out.mono ?_
 rintro e w1 ⟨p',X,R',rfl,m1,h1,k1,g1,bX,eX⟩
 have E:=hide (H.out X bX eX)
 clear eX
 go_wp2_with fail
 go_ret
 exact⟨p',X,R',rfl,m1,h1,k1,g1,bX,E.out⟩
set_option maxRecDepth 100000 in
theorem c_montRed(w0 w:World)(n m y q x p:Nat)(M Q L R:List Nat)(h0:Mod [] w0 w)(hM:ModIs w0 n m y q M Q)(ho:val M%2=1)(hx:NatIs w x p L R)(bL:Below' L M)(gx:w0.heap.size≤x)(gp:w0.heap.size≤p) :
 Calls Tryz.prog 116 #[ptr x,ptr m] w fun e w'=>
  ∃p' X R',e=.returned (ptr x)∧Mod [x,p] w w'∧NatIs w' x p' X R'∧Kept w p p'∧w0.heap.size≤p'∧Below' X M∧(val X*W^M.length)%val M=val L:=by
 have hn:=len_pos hM.big
 have hx0:=hx.xlt
 have hp0:=hx.plt
 have hroom:=hM.room
 go_enter Tryz.func116,Tryz.ntmps116
 go_wp2_with fail
 refine(c_NewNat _).mono ?_
 rintro e w1 ⟨t,pt,rfl,m1,ht1,g1,g2⟩
 have hM1:=hM.mod (h0.then m1)
 obtain⟨o,k,r,hh⟩:=hM1.head
 go_wp2_with fail
 refine(c_ExpandFor t pt m y q k o r [] _ M Q _ ht1 hh hM1.nat (by simp)).mono ?_
 rintro e w2 ⟨pt2,Rt,rfl,m2,ht2,k2⟩
 rw[padTo_nil]at ht2
 have s1:=m1.size
 have hpt2:w.heap.size≤pt2:=k2.ge g2 s1
 have m12:Mod [] w w2:=Mod.trans (U:=[]) m1 m2 (by simp) (by simp;omega)
 have hct:=ht2.cell
 rw[List.length_replicate]at hct
 have hc0:=ht2.at 0 (by simp;omega)
 have hf0:=ht2.row.frozen 0
 rw[nth_replicate0]at hc0
 have hn':(0:Int)<(M.length:Int):=by omega
 have ht3:NatIs (w2.setCell ⟨pt2,0,none⟩ (.int .u64 1)) t pt2 (oneL M.length) Rt:=
  ht2.put (by simp[oneL]) (Below.heap_setCell _ _ _ _ ht2.ne) (row_set ht2.row (by simp;omega))
 have m13:Mod [] w (w2.setCell ⟨pt2,0,none⟩ (.int .u64 1)):=m12.setCell _ _ (by simp;omega)
 have hx3:=hx.mod m13 (by simp) (by simp)
 have C:=hide (c_montB w0 (w2.setCell ⟨pt2,0,none⟩ (.int .u64 1)) n m y q x p x p t pt2 M Q L R L R (oneL M.length) Rt (h0.then m13) hM ho hx3 hx3 ht3 bL (oneL_len _) (oneL_words _) gx gp)
 rw[oneL_val hn,Nat.mul_one,Nat.mod_eq_of_lt bL.lt]at C
 clear hn hroom bL
 go_wp2_with fail
 refine C.out.mono ?_
 rintro e w4 ⟨p',X,R',rfl,m4,h4,k4,g4,bX,eX⟩
 have m14:Mod [x,p] w w4:=Mod.trans (U:=[x,p]) m13 m4 (by simp) (fun a ha _=>ha)
 have E:=hide eX
 have k4':Kept w p p':=by
  have:=m13.size
  rcases k4 with h|h
  ·exact .inl h
  ·exact .inr (by omega)
 clear eX
 go_wp2_with fail
 go_ret
 exact⟨p',X,R',rfl,m14,h4,k4',g4,bX,E.out⟩
set_option maxRecDepth 100000 in
theorem c_MulOdd(w0 w:World)(n m y q x p z pz:Nat)(M Q L R V S:List Nat)(h0:Mod [] w0 w)(hM:ModIs w0 n m y q M Q)(ho:val M%2=1)(hx:NatIs w x p L R)(hz:NatIs w z pz V S)(bL:Below' L M)(wV:Words V)(lV:V.length=M.length)
 (gx:w0.heap.size≤x) (gp:w0.heap.size≤p) :
 Calls Tryz.prog 92 #[ptr x,ptr z,ptr m] w fun e w'=>
  ∃p' X R',e=.returned (ptr x)∧Mod [x,p] w w'∧NatIs w' x p' X R'∧Kept w p p'∧w0.heap.size≤p'∧Below' X M∧val X=(val L*val V)%val M:=by
 obtain⟨k,rr,qr,XR,S',hh,-,-,-,-,-,-⟩:=(hM.mod h0).odd ho
 have hc1:=hh.c1
 have hx0:=hx.xlt
 have hp0:=hx.plt
 have hz0:=hz.xlt
 have hz1:=hz.plt
 have hs0:=h0.size
 have HLV:=hide lV
 have HO:=hide ho
 have H:Hid (∀X A,Below' X M→val A=(val L*W^M.length)%val M→(val X*W^M.length)%val M=(val A*val V)%val M→val X=(val L*val V)%val M):=by
  refine hide fun X A hX hA h=>?_
  refine mod_cancel_lt (cop_W ho M.length) hX.lt (Nat.mod_lt _ (by have:=hM.big;omega)) ?_
  rw[h,hA,Nat.mod_mul_mod,Nat.mod_mul_mod]
  congr 1
  rw[Nat.mul_assoc,Nat.mul_assoc,Nat.mul_comm (W^M.length)]
 clear lV ho
 go_enter Tryz.func92,Tryz.ntmps92
 go_wp2_with fail
 refine(c_NewNat _).mono ?_
 rintro e w1 ⟨t,pt,rfl,m1,ht1,g1,g2⟩
 have hx1:=hx.mod m1 (by simp) (by simp)
 have s1:=m1.size
 go_wp2_with fail
 refine(c_set' t pt x p [] _ L R _ ht1 hx1 (by omega) (by omega)).mono ?_
 rintro e w2 ⟨pt2,Rt,rfl,m2,ht2,k2⟩
 have hpt2:w.heap.size≤pt2:=k2.ge g2 s1
 have m12:Mod [] w w2:=Mod.trans (U:=[]) m1 m2 (by simp) (by simp;omega)
 go_wp2_with fail
 refine(c_montRep w0 w2 n m y q t pt2 M Q L Rt (h0.then m12) hM HO.out ht2 bL (by omega) (by omega)).mono ?_
 rintro e w3 ⟨pt3,A,Rt3,rfl,m3,ht3,k3,g3,bA,eA⟩
 have s2:=m12.size
 have hpt3:w.heap.size≤pt3:=k3.ge hpt2 s2
 have m13:Mod [] w w3:=Mod.trans (U:=[]) m12 m3 (by simp) (by simp;omega)
 have EA:=hide eA
 have hx3:=hx.mod m13 (by simp) (by simp)
 have hz3:=hz.mod m13 (by simp) (by simp)
 clear eA
 go_wp2_with fail
 refine(c_montB w0 w3 n m y q x p t pt3 z pz M Q L R A Rt3 V S (h0.then m13) hM HO.out hx3 ht3 hz3 bA HLV.out wV gx gp).mono ?_
 rintro e w4 ⟨p',X,R',rfl,m4,h4,k4,g4,bX,eX⟩
 have m14:Mod [x,p] w w4:=Mod.trans (U:=[x,p]) m13 m4 (by simp) (fun a ha _=>ha)
 have E:=hide (H.out X A bX EA.out eX)
 have k4':Kept w p p':=by
  have:=m13.size
  rcases k4 with h|h
  ·exact .inl h
  ·exact .inr (by omega)
 clear eX
 go_wp2_with fail
 go_ret
 exact⟨p',X,R',rfl,m14,h4,k4',g4,bX,E.out⟩
def eqR(X Y:List Nat):Nat→Nat
 |0=>1
 |k+1=>min (eqR X Y k) (eqB (nth X k) (nth Y k))
theorem eqR_le(X Y:List Nat)(k:Nat):eqR X Y k≤1:=by
 cases k with
 |zero=>simp[eqR]
 |succ k=>simp only[eqR];have:=eqB_le (nth X k) (nth Y k);omega
theorem eqR_eq{X Y:List Nat}(hX:Words X)(hY:Words Y)(hl:Y.length=X.length):∀k,k≤X.length→eqR X Y k=eqB (val (X.take k)) (val (Y.take k)):=by
 intro k
 induction k with
 |zero=>intro _;simp[eqR,eqB,val]
 |succ k ih=>
  intro hk
  rw[eqR,ih (by omega),val_take_succ (by omega),val_take_succ (by omega)]
  have h1:=val_lt (hX.take k)
  have h2:=val_lt (hY.take k)
  rw[List.length_take,Nat.min_eq_left (by omega)]at h1 h2
  unfold eqB
  by_cases ha:val (X.take k)=val (Y.take k)
  ·rw[if_pos ha,ha]
   by_cases hb:nth X k=nth Y k
   ·rw[if_pos hb,hb,if_pos rfl];rfl
   ·have hne:¬val (Y.take k)+W^k*nth X k=val (Y.take k)+W^k*nth Y k:=fun h=>hb (Nat.eq_of_mul_eq_mul_left (Nat.pow_pos W_pos) (Nat.add_left_cancel h))
    rw[if_neg hb,if_neg hne]
    rfl
  ·have hne:¬val (X.take k)+W^k*nth X k=val (Y.take k)+W^k*nth Y k:=by
    intro h
    apply ha
    have e1:=Nat.add_mul_mod_self_left (val (X.take k)) (W^k) (nth X k)
    have e2:=Nat.add_mul_mod_self_left (val (Y.take k)) (W^k) (nth Y k)
    rw[h,e2,Nat.mod_eq_of_lt h1,Nat.mod_eq_of_lt h2]at e1
    exact e1.symm
   rw[if_neg ha,if_neg hne]
   simp
set_option maxRecDepth 100000 in
theorem c_Equal(x y px py:Nat)(Lx Rx Ly Ry:List Nat)(w:World)(hx:NatIs w x px Lx Rx)(hy:NatIs w y py Ly Ry)(hlen:Ly.length=Lx.length)(wx:Words Lx)(wy:Words Ly) :
 Calls Tryz.prog 95 #[ptr x,ptr y] w fun e w'=>e=.returned (u64 (eqB (val Lx) (val Ly)))∧Mod [] w w':=by
 have hcx:=hx.cell
 have hcy:=hy.cell
 have hcap:=hx.cap
 have hcapy:=hy.cap
 have hfin:Hid (eqR Lx Ly Lx.length=eqB (val Lx) (val Ly)):=hide (by
  have:=eqR_eq wx wy hlen Lx.length (Nat.le_refl _)
  rwa [List.take_length,←hlen,List.take_length,hlen]at this)
 rw[hlen]at hcy
 have H1:=hide hlen
 have hle:Lx.length≤Lx.length+Ry.length:=by omega
 clear hlen
 go_enter Tryz.func95,Tryz.ntmps95
 go_wp2_with fail
 go_loopw [8,9] (fun c i wr=>∃k:Nat,k≤Lx.length∧i=i64 k∧c=u64 (eqR Lx Ly k)∧Mod [] w wr) (fun _ i _=>Lx.length-(intOf i).toNat)
 case atStart=>exact⟨0,Nat.zero_le _,rfl,rfl,Mod.refl _ _⟩
 case round=>
  obtain⟨k,hk,rfl,rfl,hm⟩:=hrel
  by_cases hlt:k<Lx.length
  ·have h1:=(hx.mod hm (by simp) (by simp)).at k hlt
   have h2:=(hy.mod hm (by simp) (by simp)).at k (by rw[H1.out];exact hlt)
   have ha:=and_bit (eqR_le Lx Ly k) (eqB_le (nth Lx k) (nth Ly k))
   have hs:Hid (min (eqR Lx Ly k) (eqB (nth Lx k) (nth Ly k))=eqR Lx Ly (k+1)):=hide rfl
   have hm2:=hm.drew
   clear hm
   go_wp2_with fail
   go_region_with (first|(go_at_call 121;refine(c_ctEq _ _ _).mono ?_;rintro e w' ⟨rfl,rfl⟩))
   all_goals go_wp2_with fail
   all_goals go_roundw
   all_goals first
    |exact⟨k+1,by omega,by go_num,by rw[←hs.out],hm2⟩
    |(simp[intOf];omega)
  ·obtain rfl:k=Lx.length:=by omega
   go_wp2_with fail
   go_ret
   exact⟨ret_u64 hfin.out,hm⟩
set_option maxRecDepth 100000 in
theorem c_SetUint(x p u:Nat)(L R:List Nat)(w:World)(h:NatIs w x p L R) :
 Calls Tryz.prog 142 #[ptr x,u64 u] w fun e w'=>∃p' R',e=.returned (ptr x)∧Mod [x,p] w w'∧NatIs w' x p' [u] R'∧Kept w p p':=by
 go_enter Tryz.func142,Tryz.ntmps142
 go_wp2_with fail
 refine(c_reset x p 1 L R _ h (by omega)).mono ?_
 rintro e w1 ⟨p',R',rfl,m1,h1,k1⟩
 have hc:=h1.cell
 have hc0:=h1.at 0 (by simp)
 have hf0:=h1.row.frozen 0
 rw[nth_replicate0]at hc0
 simp only[List.length_replicate]at hc
 have h2:NatIs (w1.setCell ⟨p',0,none⟩ (.int .u64 (u:Int))) x p' [u] R':=h1.put (by simp) (Below.heap_setCell _ _ _ _ h1.ne) (row_set h1.row (by simp))
 have m2:Mod [x,p] w (w1.setCell ⟨p',0,none⟩ (.int .u64 (u:Int))):=m1.setCell _ _ (fun hlt=>by
  rcases k1 with h|h
  ·simp[h]
  ·dsimp only at hlt;omega)
 go_wp2_with fail
 go_ret
 exact⟨p',R',rfl,m2,h2,k1⟩
structure Tab(n0:Nat)(w:World)(n:Nat)(xs ps:List Nat)(Q:Nat→List Nat→Prop):Prop where
 lx:xs.length=n
 lp:ps.length=n
 nat:∀j,j<n→∃L R,NatIs w (nth xs j) (nth ps j) L R∧Q j L
 gx:∀j,j<n→n0≤nth xs j∧n0≤nth ps j
 dx:∀i j,i<n→j<n→i≠j→nth xs i≠nth xs j
 dp:∀i j,i<n→j<n→i≠j→nth ps i≠nth ps j
theorem Tab.nil(n0:Nat)(w:World)(Q:Nat→List Nat→Prop):Tab n0 w 0 [] [] Q:=⟨rfl,rfl,fun _ h=>by omega,fun _ h=>by omega,fun _ _ h=>by omega,fun _ _ h=>by omega⟩
theorem Tab.push{n0:Nat}{w w':World}{n:Nat}{xs ps:List Nat}{Q:Nat→List Nat→Prop}(h:Tab n0 w n xs ps Q)(m:Mod [] w w'){x p:Nat}{L R:List Nat}(hx:NatIs w' x p L R)(gx:w.heap.size≤x)(gp:w.heap.size≤p)(g0:n0≤w.heap.size)(hQ:Q n L) :
 Tab n0 w' (n+1) (xs++[x]) (ps++[p]) Q:=by
 have e1:∀j,j<n→nth (xs++[x]) j=nth xs j:=fun j hj=>nth_append_left (by rw[h.lx];exact hj)
 have e2:∀j,j<n→nth (ps++[p]) j=nth ps j:=fun j hj=>nth_append_left (by rw[h.lp];exact hj)
 have e3:nth (xs++[x]) n=x:=by rw[nth_append_right (by rw[h.lx];exact Nat.le_refl _),h.lx,Nat.sub_self];rfl
 have e4:nth (ps++[p]) n=p:=by rw[nth_append_right (by rw[h.lp];exact Nat.le_refl _),h.lp,Nat.sub_self];rfl
 have lt1:∀j,j<n→nth xs j<w.heap.size∧nth ps j<w.heap.size:=fun j hj=>by
  obtain⟨L,R,h1,-⟩:=h.nat j hj
  exact⟨h1.xlt,h1.plt⟩
 have cs:∀j,j<n+1→j<n∨j=n:=fun j hj=>by omega
 refine⟨by simp[h.lx],by simp[h.lp],?_,?_,?_,?_⟩
 ·intro j hj
  rcases cs j hj with h1|rfl
  ·rw[e1 j h1,e2 j h1]
   obtain⟨L,R,h2,h3⟩:=h.nat j h1
   exact⟨L,R,h2.mod m (by simp) (by simp),h3⟩
  ·rw[e3,e4];exact⟨L,R,hx,hQ⟩
 ·intro j hj
  rcases cs j hj with h1|rfl
  ·rw[e1 j h1,e2 j h1];exact h.gx j h1
  ·rw[e3,e4];omega
 ·intro i j hi hj hij
  rcases cs i hi with h1|rfl<;>rcases cs j hj with h2|rfl
  ·rw[e1 i h1,e1 j h2];exact h.dx i j h1 h2 hij
  ·rw[e1 i h1,e3];have:=(lt1 i h1).1;omega
  ·rw[e1 j h2,e3];have:=(lt1 j h2).1;omega
  ·exact absurd rfl hij
 ·intro i j hi hj hij
  rcases cs i hi with h1|rfl<;>rcases cs j hj with h2|rfl
  ·rw[e2 i h1,e2 j h2];exact h.dp i j h1 h2 hij
  ·rw[e2 i h1,e4];have:=(lt1 i h1).2;omega
  ·rw[e2 j h2,e4];have:=(lt1 j h2).2;omega
  ·exact absurd rfl hij
theorem Tab.upd{n0:Nat}{w w':World}{n i:Nat}{xs ps:List Nat}{Q Q':Nat→List Nat→Prop}(h:Tab n0 w n xs ps Q)(hi:i<n)(m:Mod [nth xs i,nth ps i] w w'){p:Nat}{L R:List Nat}(hx:NatIs w' (nth xs i) p L R)(hk:Kept w (nth ps i) p)(gp:n0≤p)
 (hQ:∀j L,j≠i→Q j L→Q' j L) (hQi:Q' i L):Tab n0 w' n xs (ps.set i p) Q':=by
 have e1:nth (ps.set i p) i=p:=nth_set_same (by rw[h.lp];exact hi)
 have e2:∀j,j≠i→nth (ps.set i p) j=nth ps j:=fun j hj=>nth_set_ne (by omega)
 obtain⟨Li,Ri,hni,-⟩:=h.nat i hi
 refine⟨h.lx,by simp[h.lp],?_,?_,h.dx,?_⟩
 ·intro j hj
  by_cases hji:j=i
  ·subst hji;rw[e1];exact⟨L,R,hx,hQi⟩
  ·rw[e2 j hji]
   obtain⟨Lj,Rj,h2,h3⟩:=h.nat j hj
   have a1:=h.dx j i hj hi hji
   have a2:=h.dp j i hj hi hji
   have a3:nth xs j≠nth ps i:=h2.head.ne hni.row (by decide)
   have a4:nth ps j≠nth xs i:=h2.row.ne hni.head (by decide)
   exact⟨Lj,Rj,h2.mod m (by simp;exact⟨a1,a3⟩) (by simp;exact⟨a4,a2⟩),hQ j Lj hji h3⟩
 ·intro j hj
  by_cases hji:j=i
  ·subst hji;rw[e1];exact⟨(h.gx j hj).1,gp⟩
  ·rw[e2 j hji];exact h.gx j hj
 ·intro a b ha hb hab
  have lt1:∀j,j<n→nth ps j<w.heap.size:=fun j hj=>by
   obtain⟨L,R,h1,-⟩:=h.nat j hj
   exact h1.plt
  by_cases h1:a=i
  ·subst h1
   rw[e1,e2 b (by omega)]
   exact(hk.ne (lt1 b hb) (h.dp b a hb ha (by omega))).symm
  ·by_cases h2:b=i
   ·subst h2
    rw[e1,e2 a h1]
    exact hk.ne (lt1 a ha) (h.dp a b ha hb hab)
   ·rw[e2 a h1,e2 b h2];exact h.dp a b ha hb hab
theorem Tab.mod{n0:Nat}{w w':World}{n:Nat}{xs ps S:List Nat}{Q:Nat→List Nat→Prop}(h:Tab n0 w n xs ps Q)(m:Mod S w w')(hS:∀j,j<n→nth xs j∉S∧nth ps j∉S):Tab n0 w' n xs ps Q:=by
 refine⟨h.lx,h.lp,fun j hj=>?_,h.gx,h.dx,h.dp⟩
 obtain⟨L,R,h1,h2⟩:=h.nat j hj
 exact⟨L,R,h1.mod m (hS j hj).1 (hS j hj).2,h2⟩
theorem Tab.turn{n0:Nat}{w:World}{n:Nat}{xs ps:List Nat}{Q Q':Nat→List Nat→Prop}(h:Tab n0 w n xs ps Q)(hQ:∀j L,j<n→Q j L→Q' j L):Tab n0 w n xs ps Q':=by
 refine⟨h.lx,h.lp,fun j hj=>?_,h.gx,h.dx,h.dp⟩
 obtain⟨L,R,h1,h2⟩:=h.nat j hj
 exact⟨L,R,h1,hQ j L hj h2⟩
theorem Tab.lt{n0:Nat}{w:World}{n:Nat}{xs ps:List Nat}{Q:Nat→List Nat→Prop}(h:Tab n0 w n xs ps Q)(j:Nat)(hj:j<n):nth xs j<w.heap.size∧nth ps j<w.heap.size:=by
 obtain⟨L,R,h1,-⟩:=h.nat j hj
 exact⟨h1.xlt,h1.plt⟩
structure InR(a:Nat)(X M:List Nat):Prop where
 below:Below' X M
 eq:val X=(a*W^M.length)%val M
theorem InR.mul{a b:Nat}{A B X M:List Nat}(ho:val M%2=1)(hM:1<val M)(hA:InR a A M)(hB:InR b B M)(hX:Below' X M)(h:(val X*W^M.length)%val M=(val A*val B)%val M):InR (a*b) X M:=by
 refine⟨hX,?_⟩
 refine mod_cancel_lt (cop_W ho M.length) hX.lt (Nat.mod_lt _ (by omega)) ?_
 rw[h,hA.eq,hB.eq,←Nat.mul_mod,Nat.mod_mul_mod]
 congr 1
 generalize W^M.length=r
 grind
theorem InR.congr{a b:Nat}{X M:List Nat}(h:InR a X M)(hab:a%val M=b%val M):InR b X M:=by
 refine⟨h.below,?_⟩
 rw[h.eq,Nat.mul_mod,hab,←Nat.mul_mod]
theorem InR.red{a:Nat}{A X M:List Nat}(ho:val M%2=1)(hM:1<val M)(hA:InR a A M)(hX:Below' X M)(h:(val X*W^M.length)%val M=val A):val X=a%val M:=by
 refine mod_cancel_lt (cop_W ho M.length) hX.lt (Nat.mod_lt _ (by omega)) ?_
 rw[h,hA.eq,Nat.mod_mul_mod]
theorem oneL_below{M:List Nat}(h:1<val M):Below' (oneL M.length) M:=⟨oneL_len _,oneL_words _,by rw[oneL_val (len_pos h)];exact h⟩
end Go.Proofs.YtfgmnbmnpihjdaaGreatDoor
