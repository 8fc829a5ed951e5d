/- Lemmas of mine for the walk and its plain laws: WordsE NatK BytesA NatL M0 -/
import Derived.Test.YtfgmnbmnpihjdaaGreatDoorM12
import Derived.Test.YtfgmnbmnpihjdaaGreatDoorM13
import Derived.Test.YtfgmnbmnpihjdaaGreatDoorM01
set_option linter.all false
set_option maxHeartbeats 4000000
namespace Go.Proofs.YtfgmnbmnpihjdaaGreatDoor
theorem cop_two{m:Nat}(h:m%2=1):Nat.Coprime 2 m:=by
 unfold Nat.Coprime
 rw[Nat.gcd_rec,h]
 rfl
theorem cop_W{m:Nat}(h:m%2=1)(n:Nat):Nat.Coprime (W^n) m:=by
 rw[W_pow]
 exact(cop_two h).pow_left _
theorem dvd_of_mods{a b m:Nat}(h:a%m=b%m):m∣a-b:=by
 have ha:=Nat.div_add_mod a m
 have hb:=Nat.div_add_mod b m
 refine⟨a/m-b/m,?_⟩
 rw[Nat.mul_sub]
 omega
theorem mods_of_dvd{a b m:Nat}(hab:b≤a)(h:m∣a-b):a%m=b%m:=by
 obtain⟨c,hc⟩:=h
 have:a=b+m*c:=by omega
 rw[this,Nat.add_mul_mod_self_left]
theorem mod_cancel{a b r m:Nat}(hc:Nat.Coprime r m)(h:(a*r)%m=(b*r)%m):a%m=b%m:=by
 have key:∀a b:Nat,b≤a→(a*r)%m=(b*r)%m→a%m=b%m:=by
  intro a b hab h
  have hd:m∣a*r-b*r:=dvd_of_mods h
  rw[←Nat.sub_mul]at hd
  have hd2:m∣a-b:=(Nat.Coprime.symm hc).dvd_of_dvd_mul_right hd
  exact mods_of_dvd hab hd2
 rcases Nat.le_total b a with hab|hab
 ·exact key a b hab h
 ·exact(key b a hab h.symm).symm
theorem mod_cancel_lt{a b r m:Nat}(hc:Nat.Coprime r m)(ha:a<m)(hb:b<m)(h:(a*r)%m=(b*r)%m):a=b:=by
 have:=mod_cancel hc h
 rwa [Nat.mod_eq_of_lt ha,Nat.mod_eq_of_lt hb]at this
theorem dbl_pow{m c j a:Nat}(ha:a=(c*2^j)%m):(a+a)%m=(c*2^(j+1))%m:=by
 rw[ha,←Nat.add_mod,Nat.pow_succ,←Nat.mul_assoc,Nat.mul_two]
theorem sq_pow{m R e x x':Nat}(hc:Nat.Coprime R m)(hx:x=(R*2^e)%m)(hlt:x'<m)(h:(x'*R)%m=(x*x)%m):x'=(R*2^(2*e))%m:=by
 refine mod_cancel_lt hc hlt (Nat.mod_lt _ (by omega)) ?_
 rw[h,hx,←Nat.mul_mod,Nat.mod_mul_mod]
 congr 1
 rw[Nat.two_mul,Nat.pow_add]
 ac_rfl
theorem blen_word_le{n:Nat}(h:n<W):blen n≤64:=by
 unfold blen
 split
 ·omega
 ·rename_i h0
  have:=(Nat.log2_lt h0 (k:=64)).2 (by rw[W_two]at h;exact h)
  omega
theorem blen_top{M:List Nat}(wM:Words M)(hn:0<M.length)(htop:nth M (M.length-1)≠0):blen (val M)=(M.length-1)*64+blen (nth M (M.length-1)):=by
 have:=rowBits_eq wM M.length (Nat.le_refl _)
 rw[List.take_length]at this
 rw[←this]
 obtain⟨k,hk⟩:∃k,M.length=k+1:=⟨M.length-1,by omega⟩
 rw[hk]at htop ⊢
 simp only[rowBits]
 rw[show k+1-1=k by omega]at htop ⊢
 rw[if_neg htop]
theorem pow_below{m:Nat}(h1:1<m)(hodd:m%2=1):2^(blen m-1)<m:=by
 have h:=two_blen_le (n:=m) (by omega)
 rcases Nat.lt_or_ge (2^(blen m-1)) m with h2|h2
 ·exact h2
 ·have e:m=2^(blen m-1):=by omega
  cases hb:blen m-1 with
  |zero=>rw[hb]at e;simp at e;omega
  |succ k=>rw[hb,Nat.pow_succ]at e;omega
theorem val_set_zero(n:Nat){i v:Nat}(hi:i<n):val ((List.replicate n 0).set i v)=W^i*v:=by
 rw[val_split _ (i+1) (by simp;omega),take_succ_set (by simpa using hi)]
 have e1:(List.replicate n 0).take i=List.replicate i 0:=by simp[Nat.min_eq_left (show i≤n by omega)]
 have e2:((List.replicate n 0).set i v).drop (i+1)=List.replicate (n-(i+1)) 0:=by
  rw[List.drop_set_of_lt (by omega)]
  simp
 rw[e1,e2,val_replicate0,val_replicate0]
 omega
theorem first_row{M:List Nat}(wM:Words M)(hn:0<M.length)(htop:nth M (M.length-1)≠0) :
 val ((List.replicate M.length 0).set (M.length-1) (2^((blen (val M)-1)%64)))=2^(blen (val M)-1):=by
 rw[val_set_zero _ (by omega),W_pow,←Nat.pow_add]
 congr 1
 have h:=blen_top wM hn htop
 have h64:=blen_word_le (wM.nth (M.length-1))
 have hp:1≤blen (nth M (M.length-1)):=by unfold blen;rw[if_neg htop];omega
 omega
end Go.Proofs.YtfgmnbmnpihjdaaGreatDoor
namespace Go.Proofs.YtfgmnbmnpihjdaaGreatDoor
open Go.RowKit
def shv(n j:Nat):Nat:=n/2^j
theorem shv_int(n j:Nat):(n:Int)/2^j=((shv n j:Nat):Int):=by
 unfold shv
 rw[Int.natCast_ediv,Int.natCast_pow]
 rfl
theorem shv_zero(n:Nat):shv n 0=n:=by simp[shv]
theorem shv_succ(n j:Nat):shv n j=2*shv n (j+1)+shv n j%2:=by
 unfold shv
 rw[Nat.pow_succ,←Nat.div_div_eq_div_mul]
 omega
theorem shv_le(n j:Nat):shv n j≤n:=Nat.div_le_self _ _
set_option maxRecDepth 100000 in
theorem c_rr(m y q k:Nat)(odd:Bool)(r:Value)(M Q:List Nat)(w:World)(hm:MHead w m y odd k r)(hy:NatIs w y q M Q)
 (wM:Words M) (hn:0<M.length) (hnb:M.length≤20000) (htop:nth M (M.length-1)≠0) (h1:1<val M) (hodd:val M%2=1) (hk:(k*nth M 0)%W=W-1) :
 Calls Tryz.prog 135 #[ptr m] w fun e w'=>
  ∃x p X R,e=.returned (ptr x)∧Mod [] w w'∧NatIs w' x p X R∧w.heap.size≤x∧w.heap.size≤p∧Below' X M∧val X=(W^M.length*W^M.length)%val M:=by
 have HN:=hide hn
 obtain⟨lr,hlr⟩:∃lr:Nat,lr=64*M.length:=⟨_,rfl⟩
 have e3:(64:Int)*(M.length:Int)=(lr:Int):=by omega
 have hlr1:lr≤64*M.length:=by omega
 have hlr2:64*M.length≤lr:=by omega
 have HLR:=hide hlr
 clear hlr
 go_enter Tryz.func135,Tryz.ntmps135
 go_wp2_with fail
 refine(c_NewNat _).mono ?_
 rintro e w1 ⟨x,p,rfl,m1,hx1,g1,g2⟩
 have hm1:MHead w1 m y odd k r:=Blk.mod hm m1 (by simp)
 have hy1:=hy.mod m1 (by simp) (by simp)
 go_wp2_with fail
 refine(c_ExpandFor x p m y q k odd r [] _ M Q _ hx1 hm1 hy1 (by simp)).mono ?_
 rintro e w2 ⟨p2,R2,rfl,m2,hx2,k2⟩
 rw[padTo_nil]at hx2
 have hp2:w.heap.size≤p2:=k2.ge g2 m1.size
 have m12:Mod [] w w2:=Mod.trans (U:=[]) m1 m2 (by simp) (by simp;omega)
 have hm2:MHead w2 m y odd k r:=Blk.mod hm m12 (by simp)
 have hy2:=hy.mod m12 (by simp) (by simp)
 have hc2:=hx2.cell
 simp only[List.length_replicate]at hc2
 have e1:IntKind.u64.wrap (M.length:Int)=(M.length:Int):=by rw[IntKind.wrap_u64];omega
 clear m1 m2 hm1 hy1 hx1 k2
 go_wp2_with fail
 refine(c_BitLen m y q k odd r M Q _ hm2 hy2 wM).mono ?_;rintro e w' ⟨rfl,rfl⟩
 have hB0:=blen_top wM hn htop
 have hB1:=blen_word_le (wM.nth (M.length-1))
 have hB2:1≤blen (nth M (M.length-1)):=by unfold blen;rw[if_neg htop];omega
 have hrow1:=first_row wM hn htop
 obtain⟨B,hB⟩:∃B,B=blen (val M):=⟨_,rfl⟩
 rw[←hB]at hrow1 hB0 ⊢
 have hB3:1≤B:=by omega
 have hB4:B≤64*M.length:=by omega
 have HB:=hide hB
 have HR1:=hide hrow1
 obtain⟨pw,hpw⟩:∃pw:Nat,pw=2^((B-1)%64):=⟨_,rfl⟩
 rw[←hpw]at hrow1
 have hpwW:pw<W:=by
  rw[hpw,W_two]
  exact Nat.pow_lt_pow_right (by omega) (Nat.mod_lt _ (by omega))
 have e2:IntKind.u64.wrap (2^((B-1)%64))=(pw:Int):=by
  have h:=wrapW pw
  rw[Nat.mod_eq_of_lt hpwW]at h
  rw[←h,hpw]
  congr 1
 have HR1:=hide hrow1
 have hcp:=hx2.at (M.length-1) (by simp;omega)
 have hfp:=hx2.row.frozen (M.length-1)
 obtain⟨X0,hX0⟩:∃X0,X0=(List.replicate M.length 0).set (M.length-1) pw:=⟨_,rfl⟩
 have hx3:NatIs (w2.setCell ⟨p2,M.length-1,none⟩ (u64 pw)) x p2 X0 R2:=by
  have hr:=row_set (v:=pw) hx2.row (k:=M.length-1) (by simp;omega)
  rw[←hX0]at hr
  exact hx2.put (by rw[hX0];simp) (Below.heap_setCell _ _ _ _ hx2.ne) hr
 have hM3:Mod [] w (w2.setCell ⟨p2,M.length-1,none⟩ (u64 pw)):=m12.setCell _ _ (by simp;omega)
 have hX0v:val X0=(1*2^(B-1))%val M:=by
  rw[hX0,hrow1,Nat.one_mul,Nat.mod_eq_of_lt]
  rw[hB]
  exact pow_below h1 hodd
 have hX0b:Below' X0 M:=⟨by rw[hX0];simp,by rw[hX0];exact(Words.replicate0 _).set _ hpwW,by rw[hX0v];exact Nat.mod_lt _ (by omega)⟩
 have HX0v:=hide hX0v
 clear hB hB0 hB1 hB2 hrow1 hX0v hX0 hpw m12
 go_wp2_with fail
 rw[e2]
 clear e2
 go_loopw [7] (fun i wr=>∃(j:Nat) (X:List Nat),B≤j+1∧j≤lr∧i=u64 j∧Mod [] w wr∧NatIs wr x p2 X R2∧Below' X M∧Hid (val X=(1*2^j)%val M)) (fun i _=>lr-(intOf i).toNat)
 case atStart=>exact⟨B-1,X0,by omega,by omega,by go_num,hM3,hx3,hX0b,HX0v⟩
 case round=>
  obtain⟨j,X,hj1,hj2,rfl,hmr,hxr,hbX,hvX⟩:=hrel
  have hmr2:MHead wr m y odd k r:=Blk.mod hm hmr (by simp)
  have hyr:=hy.mod hmr (by simp) (by simp)
  have hlq:=hy.plt
  by_cases hlt:j<lr
  ·go_wp2_with fail
   refine(c_Add' x p2 x p2 m y q k odd r X R2 X R2 M Q _ hxr hxr hmr2 hyr hbX hbX wM (by omega)).mono ?_
   rintro e w4 ⟨X',rfl,m4,hx4,hb4,hv4⟩
   have hv5:Hid (val X'=(1*2^(j+1))%val M):=hide (by rw[hv4];exact dbl_pow hvX.out)
   have hm5:Mod [] w w4:=Mod.trans (U:=[]) hmr m4 (by simp) (by simp;omega)
   clear hv4 m4 hxr hbX hvX
   go_wp2_with fail
   go_roundw
   case rel=>exact⟨j+1,X',by omega,by omega,by go_num,hm5,hx4,hb4,hv5⟩
   case measure=>simp[intOf];omega
  ·obtain rfl:lr=j:=by omega
   have hvR:Hid (val X=(W^M.length*2^0)%val M):=hide (by rw[hvX.out,Nat.one_mul,W_pow,HLR.out,Nat.pow_zero,Nat.mul_one])
   clear hvX hj1 hj2 hlt
   obtain⟨wo,rfl⟩:∃wo:World,wo=wr:=⟨_,rfl⟩
   go_wp2_with fail
   go_loop [9] (fun i=>∃j:Nat,j≤64∧i=i64 j) (fun i=>(intOf i).toNat)
   case atStart=>exact⟨64,by omega,rfl⟩
   case round=>
    obtain⟨j,hj,rfl⟩:=hrel
    have hdiv:=shv_int lr j
    by_cases hle:shv lr j≤M.length/4
    ·have hj0:0<j:=by
      rcases Nat.eq_zero_or_pos j with h|h
      ·subst h;rw[shv_zero]at hle;omega
      ·exact h
     go_wp2_with fail
     go_round
     case rel=>exact⟨j-1,by omega,by go_num⟩
     case measure=>simp[intOf];omega
    ·go_wp2_with fail
     go_loopw [10] (fun i wr=>∃(c:Nat) (X:List Nat),c≤shv lr j∧i=u64 c∧Mod [] w wr∧NatIs wr x p2 X R2∧Below' X M∧Hid (val X=(W^M.length*2^c)%val M)) (fun i _=>shv lr j-(intOf i).toNat)
     case atStart=>exact⟨0,X,by omega,rfl,hmr,hxr,hbX,hvR⟩
     case round=>
      clear hmr hxr hbX hvR hmr2 hyr X
      obtain⟨c,X,hc,rfl,hmr,hxr,hbX,hvX⟩:=hrel
      have hmr2:MHead wr m y odd k r:=Blk.mod hm hmr (by simp)
      have hyr:=hy.mod hmr (by simp) (by simp)
      have hlq:=hy.plt
      have hshl:=shv_le lr j
      by_cases hlt:c<shv lr j
      ·go_wp2_with fail
       refine(c_Add' x p2 x p2 m y q k odd r X R2 X R2 M Q _ hxr hxr hmr2 hyr hbX hbX wM (by omega)).mono ?_
       rintro e w4 ⟨X',rfl,m4,hx4,hb4,hv4⟩
       have hv5:Hid (val X'=(W^M.length*2^(c+1))%val M):=hide (by rw[hv4];exact dbl_pow hvX.out)
       have hm5:Mod [] w w4:=Mod.trans (U:=[]) hmr m4 (by simp) (by simp;omega)
       clear hv4 m4 hxr hbX hvX
       go_wp2_with fail
       go_roundw
       case rel=>exact⟨c+1,X',by omega,by go_num,hm5,hx4,hb4,hv5⟩
       case measure=>simp[intOf];omega
      ·obtain rfl:shv lr j=c:=by omega
       obtain⟨wo2,rfl⟩:∃wo:World,wo=wr:=⟨_,rfl⟩
       clear hle hshl
       go_wp2_with fail
       clear hdiv hlt
       go_loopw [9] (fun i wr=>∃(j p:Nat) (X R:List Nat),j≤64∧i=i64 j∧Mod [] w wr∧NatIs wr x p X R∧w.heap.size≤p∧Below' X M∧Hid (val X=(W^M.length*2^(shv lr j))%val M)) (fun i _=>(intOf i).toNat)
       case atStart=>exact⟨j,p2,X,R2,hj,rfl,hmr,hxr,hp2,hbX,hvX⟩
       case round=>
        clear hmr hxr hbX hvX hmr2 hyr X hp2 hj
        obtain⟨j,p2,X,R2,hj,rfl,hmr,hxr,hp2,hbX,hvX⟩:=hrel
        have hmr2:MHead wr m y odd k r:=Blk.mod hm hmr (by simp)
        have hyr:=hy.mod hmr (by simp) (by simp)
        have hly:=hy.xlt
        have hcop:=hide (cop_W hodd M.length)
        by_cases hj0:0<j
        ·obtain⟨j,rfl⟩:∃j',j=j'+1:=⟨j-1,by omega⟩
         have hdiv:=shv_int lr j
         have hlw:shv lr j<W:=by have:=shv_le lr j;rw[W_eq];omega
         have hand:=and_one_word hlw
         have hstep:=hide (shv_succ lr j)
         clear hlw hj0
         go_wp2_with fail
         refine(c_montMul x p2 x p2 x p2 m y q k odd r X R2 X R2 X R2 M Q _ hxr hxr hxr hmr2 hyr hbX hbX.len hbX.words wM HN.out hnb hk (by omega) (by omega)).mono ?_
         rintro e w4 ⟨p3,X',R3,rfl,m4,hx4,k4,hmt⟩
         have hv4:Hid (val X'=(W^M.length*2^(2*shv lr (j+1)))%val M):=hide (sq_pow hcop.out hvX.out hmt.below.lt hmt.eq)
         have hp3:w.heap.size≤p3:=k4.ge hp2 hmr.size
         have hm5:Mod [] w w4:=Mod.trans (U:=[]) hmr m4 (by simp) (by simp;omega)
         have hmr4:MHead w4 m y odd k r:=Blk.mod hm hm5 (by simp)
         have hyr4:=hy.mod hm5 (by simp) (by simp)
         have hb4:=hmt.below
         clear hmt m4 k4 hvX hbX hxr hmr2 hyr hmr
         rcases Nat.mod_two_eq_zero_or_one (shv lr j)with hbit|hbit
         ·have hv5:Hid (val X'=(W^M.length*2^(shv lr j))%val M):=hide (by rw[hv4.out,hstep.out,hbit];rfl)
          clear hv4 hstep
          rw[hbit]at hand
          clear hbit
          go_wp2_with fail
          go_roundw
          case rel=>exact⟨j,p3,X',R3,by omega,by go_num,hm5,hx4,hp3,hb4,hv5⟩
          case measure=>simp[intOf]
         ·rw[hbit]at hand
          have HBIT:=hide hbit
          clear hbit
          go_wp2_with fail
          refine(c_Add' x p3 x p3 m y q k odd r X' R3 X' R3 M Q _ hx4 hx4 hmr4 hyr4 hb4 hb4 wM (by omega)).mono ?_
          rintro e w5 ⟨X5,rfl,m5,hx5,hb5,hv5⟩
          have hv6:Hid (val X5=(W^M.length*2^(shv lr j))%val M):=hide (by rw[hv5,dbl_pow hv4.out,hstep.out,HBIT.out])
          have hm6:Mod [] w w5:=Mod.trans (U:=[]) hm5 m5 (by simp) (by simp;omega)
          clear hv5 hv4 m5 hm5 hx4 hb4
          go_wp2_with fail
          go_roundw
          case rel=>exact⟨j,p3,X5,R3,by omega,by go_num,hm6,hx5,hp3,hb5,hv6⟩
          case measure=>simp[intOf]
        ·obtain rfl:j=0:=by omega
         have hfin:val X=(W^M.length*W^M.length)%val M:=by
          rw[hvX.out,shv_zero,HLR.out,W_pow]
         have HF:=hide hfin
         clear hfin
         go_wp2_with fail
         go_ret
         exact⟨x,p2,X,R2,rfl,hmr,hxr,g1,hp2,hbX,HF.out⟩
end Go.Proofs.YtfgmnbmnpihjdaaGreatDoor
namespace Go.Proofs.YtfgmnbmnpihjdaaGreatDoor
open Go.RowKit
def CellsB(w:World)(b o:Nat)(B:List Nat):Prop:=∀i,i<B.length→w.cell? ⟨b,o+i,none⟩=some (u8 (nth B i))
theorem CellsB.drewN{w:World}{b o:Nat}{B:List Nat}(h:CellsB w b o B)(n:Nat):CellsB (w.drewN n) b o B:=h
theorem CellsB.drew{w:World}{b o:Nat}{B:List Nat}(h:CellsB w b o B):CellsB w.drew b o B:=h
theorem CellsB.mod{w w':World}{S:List Nat}{b o:Nat}{B:List Nat}(h:CellsB w b o B)(m:Mod S w w')(hb:b∉S):CellsB w' b o B:=by
 intro i hi
 have h1:=h i hi
 have hlt:b<w.heap.size:=block_lt_of_cell h1
 rw[←h1]
 exact World.cell?_of_block (w:=w) (m.block b hlt hb)
theorem CellsB.lt{w:World}{b o:Nat}{B:List Nat}(h:CellsB w b o B)(hB:0<B.length):b<w.heap.size:=block_lt_of_cell (h 0 hB)
def SliceB(w:World)(v:Value)(B:List Nat):Prop:=(v=.slice none 0 0∧B=[])∨(∃x c,v=.slice (some x) 0 c∧B=[])∨∃b o c,v=sl b o B.length c∧B.length≤c∧CellsB w b o B
def bseg(B:List Nat)(e:Nat):Nat→Nat
 |0=>0
 |t+1=>bseg B e t+256^t*nth B (e-1-t)
def bval(B:List Nat):Nat:=bseg B B.length B.length
theorem bseg_add(B:List Nat)(e s:Nat):∀t,bseg B e (s+t)=bseg B e s+256^s*bseg B (e-s) t:=by
 intro t
 induction t with
 |zero=>simp[bseg]
 |succ t ih=>
  rw[←Nat.add_assoc,bseg,ih,bseg,Nat.mul_add,Nat.pow_add,Nat.mul_assoc,show e-1-(s+t)=e-s-1-t by omega]
  omega
theorem bseg_lt{B:List Nat}(h:Bytes B)(e:Nat):∀t,bseg B e t<256^t:=by
 intro t
 induction t with
 |zero=>simp[bseg]
 |succ t ih=>
  simp only[bseg,Nat.pow_succ]
  have:=h (e-1-t)
  have h2:256^t*(nth B (e-1-t)+1)≤256^t*256:=Nat.mul_le_mul_left _ this
  rw[Nat.mul_add]at h2
  omega
theorem be8_seg(B:List Nat)(o:Nat):be8 B o=bseg B (o+8) 8:=by
 simp only[bseg,be8,be4]
 rw[show o+8-1-0=o+4+3 by omega,show o+8-1-1=o+4+2 by omega,show o+8-1-2=o+4+1 by omega,show o+8-1-3=o+4 by omega,
  show o+8-1-4=o+3 by omega,show o+8-1-5=o+2 by omega,show o+8-1-6=o+1 by omega,show o+8-1-7=o by omega]
 omega
set_option maxRecDepth 100000 in
theorem c_be32'(bb o q n c:Nat)(B:List Nat)(w:World)(hb:CellsB w bb o B)(hB:Bytes B)(hn:4≤n)(hq:q+n≤B.length) :
 Calls Tryz.prog 147 #[sl bb (o+q) n c] w fun e w'=>e=.returned (u32 (be4 B q))∧∃k,w'=w.drewN k:=by
 have h0:=hb q (by omega)
 have h1:=hb (q+1) (by omega)
 have h2:=hb (q+2) (by omega)
 have h3:=hb (q+3) (by omega)
 rw[←Nat.add_assoc]at h1 h2 h3
 have b0:=hB q;have b1:=hB (q+1);have b2:=hB (q+2);have b3:=hB (q+3)
 have hv:=hide (congrArg (Value.int .u32) (be4_or (nth B q) (nth B (q+1)) (nth B (q+2)) (nth B (q+3)) b0 b1 b2 b3))
 have g0:(3:Int)<(n:Int):=by omega
 have g1:(2:Int)<(n:Int):=by omega
 have g2:(1:Int)<(n:Int):=by omega
 have g3:(0:Int)<(n:Int):=by omega
 clear hn hq
 obtain⟨p,hp⟩:∃p,p=o+q:=⟨_,rfl⟩
 rw[←hp]at h0 h1 h2 h3 ⊢
 clear hp
 go_enter Tryz.func147,Tryz.ntmps147
 go_wp2
 go_quiet (fail)
 go_wp2
 go_ret
 exact⟨congrArg Ending.returned hv.out,⟨_,rfl⟩⟩
set_option maxRecDepth 100000 in
theorem c_be64'(bb o q n c:Nat)(B:List Nat)(w:World)(hb:CellsB w bb o B)(hB:Bytes B)(hn:8≤n)(hc:n≤c)(hq:q+n≤B.length) :
 Calls Tryz.prog 146 #[sl bb (o+q) n c] w fun e w'=>e=.returned (u64 (be8 B q))∧∃k,w'=w.drewN k:=by
 have h7:=hb (q+7) (by omega)
 rw[←Nat.add_assoc]at h7
 have hlo:=be4_lt hB q
 have hhi:=be4_lt hB (q+4)
 have hv:Hid (Value.int .u64 (bits .or .u64 (IntKind.u64.wrap (IntKind.u64.wrap (be4 B q:Int)*4294967296)) (IntKind.u64.wrap (be4 B (q+4):Int)))=u64 (be8 B q)):=by
  have:=bits_join .u64 64 (by decide) wraps_u64 32 ((be4 B q:Int)*4294967296) (be4 B (q+4):Int) (by omega) (by omega) (by omega) (by omega) (by omega) (by omega)
  refine hide (congrArg (Value.int .u64) ?_)
  rw[u64_wrap_id (be4 B q:Int) (by omega) (by omega),u64_wrap_id ((be4 B q:Int)*4294967296) (by omega) (by omega),u64_wrap_id (be4 B (q+4):Int) (by omega) (by omega),this]
  unfold be8
  omega
 have g7:(7:Int)<(n:Int):=by omega
 have g4:(4:Int)≤(n:Int):=by omega
 have g4c:¬c=4:=by omega
 have c1:=fun k=>c_be32' bb o q n c B (w.drewN k) (hb.drewN k) hB (by omega) hq
 have c2:=fun k=>c_be32' bb o (q+4) (n-4) (c-4) B (w.drewN k) (hb.drewN k) hB (by omega) (by omega)
 rw[←Nat.add_assoc]at c2
 obtain⟨p,hp⟩:∃p,p=o+q:=⟨_,rfl⟩
 rw[←hp]at h7 c1 c2 ⊢
 have C1:=hide c1
 have C2:=hide c2
 clear c1 c2 hp
 go_enter Tryz.func146,Tryz.ntmps146
 go_wp2
 refine wp_region_quiet_lit (by kernel_rfl) (by kernel_rfl) ?_
 iterate 6 quiet_step ((go_at_call 147;exact Calls.quiet_of (C1.out _)))
 repeat quiet_step ((go_at_call 147;exact Calls.quiet_of (C2.out _)))
 refine wpQuiet_nil ?_
 intro _ hw'
 obtain⟨nq,hw''⟩:=hw'
 subst hw''
 go_wp2
 go_ret
 exact⟨congrArg Ending.returned hv.out,⟨_,rfl⟩⟩
set_option maxRecDepth 100000 in
theorem c_beUint'(bb o q n c:Nat)(B:List Nat)(w:World)(hb:CellsB w bb o B)(hB:Bytes B)(hn:8≤n)(hc:n≤c)(hq:q+n≤B.length) :
 Calls Tryz.prog 137 #[sl bb (o+q) n c] w fun e w'=>e=.returned (u64 (be8 B q))∧∃k,w'=w.drewN k:=by
 have C:=hide (c_be64' bb o q n c B w hb hB hn hc hq)
 go_enter Tryz.func137,Tryz.ntmps137
 go_wp2_with fail
 refine C.out.mono ?_;rintro e w' ⟨rfl,k,rfl⟩
 go_wp2_with fail
 go_ret
 exact⟨rfl,k,rfl⟩
theorem val_set{V:List Nat}{k v:Nat}(h:k<V.length):val (V.set k v)+W^k*nth V k=val V+W^k*v:=by
 have e1:=val_split V (k+1) (by omega)
 have e2:=val_split (V.set k v) (k+1) (by simp;omega)
 rw[val_take_succ h]at e1
 rw[take_succ_set h,List.drop_set_of_lt (by omega)]at e2
 omega
set_option maxRecDepth 100000 in
theorem c_errNew(s:ByteArray)(w:World):Calls Tryz.prog 78 #[.string s] w fun e w'=>∃p,e=.returned (.iface 173 (ptr p))∧Mod [] w w':=by
 go_enter Tryz.func78,Tryz.ntmps78
 go_wp2
 go_ret
 exact⟨_,rfl,(Mod.refl [] w).alloc _⟩
end Go.Proofs.YtfgmnbmnpihjdaaGreatDoor
namespace Go.Proofs.YtfgmnbmnpihjdaaGreatDoor
open Go.RowKit
structure SB(B V:List Nat)(n k t i:Nat):Prop where
 len:V.length=n
 words:Words V
 zero:∀j,k<j→nth V j=0
 left:i+8*k+t=B.length
 cur:nth V k=bseg B (i+t) t
 val:val V=bseg B B.length (8*k+t)
theorem pow256_8(k:Nat):256^(8*k)=W^k:=by rw[Nat.pow_mul,W_eq]
theorem SB.start(B:List Nat)(n:Nat):SB B (List.replicate n 0) n 0 0 B.length:=
 ⟨by simp,Words.replicate0 _,fun j _=>nth_replicate0 _ _,by omega,by rw[nth_replicate0];rfl,by rw[val_replicate0];rfl⟩
theorem SB.word{B V:List Nat}{n k i:Nat}(h:SB B V n k 0 (i+8))(hB:Bytes B)(hk:k<n):SB B (V.set k (be8 B i)) n (k+1) 0 i:=by
 have hl:=h.left
 refine⟨by simp[h.len],h.words.set _ (be8_lt hB i),fun j hj=>by rw[nth_set_ne (by omega)];exact h.zero j (by omega),by omega,?_,?_⟩
 ·rw[nth_set_ne (by omega),h.zero _ (by omega)];rfl
 ·have hv:=val_set (V:=V) (k:=k) (v:=be8 B i) (by rw[h.len];exact hk)
  have hc:nth V k=0:=h.cur
  have h2:=bseg_add B B.length (8*k) 8
  rw[show B.length-8*k=i+8 by omega,pow256_8,←be8_seg]at h2
  have h3:=h.val
  rw[Nat.add_zero]at h3
  rw[show 8*(k+1)+0=8*k+8 by omega,h2,←h3]
  rw[hc]at hv
  omega
theorem SB.byte{B V:List Nat}{n k t i:Nat}(h:SB B V n k t (i+1))(hB:Bytes B)(hk:k<n)(ht:t<8):SB B (V.set k (nth V k+nth B i*2^(8*t))) n k (t+1) i:=by
 have hl:=h.left
 have e:(256:Nat)^t=2^(8*t):=by rw[Nat.pow_mul]
 have hcur:nth V k+nth B i*2^(8*t)=bseg B (i+(t+1)) (t+1):=by
  rw[h.cur,bseg,show i+1+t=i+(t+1)by omega,show i+(t+1)-1-t=i by omega,e,Nat.mul_comm]
 refine⟨by simp[h.len],h.words.set _ ?_,fun j hj=>by rw[nth_set_ne (by omega)];exact h.zero j (by omega),by omega,by rw[nth_set_same (by rw[h.len];exact hk)];exact hcur,?_⟩
 ·rw[hcur]
  refine Nat.lt_of_lt_of_le (bseg_lt hB _ _) ?_
  rw[show W=256^8 by rw[W_eq]]
  exact Nat.pow_le_pow_right (by omega) (by omega)
 ·have hv:=val_set (V:=V) (k:=k) (v:=nth V k+nth B i*2^(8*t)) (by rw[h.len];exact hk)
  rw[show 8*k+(t+1)=8*k+t+1 by omega,bseg,←h.val,show B.length-1-(8*k+t)=i by omega,Nat.pow_add,pow256_8,e]
  rw[Nat.mul_add]at hv
  rw[Nat.mul_assoc,Nat.mul_comm (2^(8*t)) (nth B i)]
  omega
theorem SB.done{B V:List Nat}{n k t:Nat}(h:SB B V n k t 0):V.length=n∧Words V∧Go.Proofs.YtfgmnbmnpihjdaaGreatDoor.val V=bval B:=by
 refine⟨h.len,h.words,?_⟩
 have:=h.left
 rw[h.val,show 8*k+t=B.length by omega]
 rfl
theorem byte_or{a b s:Nat}(t:Nat)(hs:s=8*t)(ht:t<8)(ha:a<256^t)(hb:b<256):bits .or .u64 (a:Int) (IntKind.u64.wrap ((b:Int)*2^s))=((a+b*2^(8*t):Nat):Int):=by
 subst hs
 have e:(256:Nat)^t=2^(8*t):=by rw[Nat.pow_mul]
 rw[e]at ha
 have hlt:b*2^(8*t)<2^64:=by
  have h1:b*2^(8*t)<2^8*2^(8*t):=Nat.mul_lt_mul_of_pos_right (by omega) (Nat.pow_pos (by omega))
  rw[←Nat.pow_add]at h1
  exact Nat.lt_of_lt_of_le h1 (Nat.pow_le_pow_right (by omega) (by omega))
 have ha64:a<2^64:=Nat.lt_of_lt_of_le ha (Nat.pow_le_pow_right (by omega) (by omega))
 have e2:((b:Int)*2^(8*t))=((b*2^(8*t):Nat):Int):=by rw[Int.natCast_mul,Int.natCast_pow];rfl
 rw[e2,u64_wrap_id _ (by omega) (by omega)]
 have:=bits_join_low .u64 64 (by decide) wraps_u64 (8*t) (a:Int) ((b*2^(8*t):Nat):Int) (by omega) (by exact_mod_cast ha) (by omega) (by omega)
  (by rw[Int.natCast_mul,Int.natCast_pow];exact Int.mul_emod_left _ _) (by omega)
 rw[this]
 omega
set_option maxRecDepth 100000 in
theorem c_setBytes(x p n bb o c:Nat)(R B:List Nat)(w:World)(h:NatIs w x p (List.replicate n 0) R)(hb:CellsB w bb o B)(hB:Bytes B)(hc:B.length≤c)(hne:bb≠p)(hfit:B.length≤8*n) :
 Calls Tryz.prog 111 #[ptr x,sl bb o B.length c] w fun e w'=>
  ∃V,e=.returned .nilIface∧Mod [p] w w'∧NatIs w' x p V R∧V.length=n∧Words V∧val V=bval B:=by
 have hcap:=h.cap
 rw[List.length_replicate]at hcap
 have h00:bb<w.heap.size∨B.length=0:=by
  rcases Nat.eq_zero_or_pos B.length with h0|h0
  ·exact .inr h0
  ·exact .inl (hb.lt h0)
 go_enter Tryz.func111,Tryz.ntmps111
 go_wp2_with fail
 go_loopw [5,6] (fun i k wr=>∃(jn kn:Nat) (V:List Nat),i=i64 jn∧k=i64 kn∧kn≤n∧Hid (SB B V n kn 0 jn)∧jn≤B.length∧Mod [p] w wr∧NatIs wr x p V R) (fun i _ _=>(intOf i).toNat)
 case atStart=>exact⟨B.length,0,_,rfl,rfl,by omega,hide (SB.start B n),by omega,Mod.refl _ _,h⟩
 case round=>
  obtain⟨j,k,V,rfl,rfl,hk,hS,hj,hm,hx⟩:=hrel
  have hVl:=hS.out.len
  have hl:=hS.out.left
  have hcx:=hx.cell
  rw[hVl]at hcx
  by_cases hgo:k<n∧8≤j
  ·obtain⟨hlt,h8⟩:=hgo
   obtain⟨i,hij⟩:∃i,j=i+8:=⟨j-8,by omega⟩
   have C:=hide (c_beUint' bb o i (j-i) (c-i) B wr.drew ((hb.mod hm (by simpa using hne)).drew) hB (by omega) (by omega) (by omega))
   have hcp:=hx.at k (by omega)
   have hfp:=hx.row.frozen k
   have e8:IntKind.i64.wrap ((j:Int)-8)=(i:Int):=by rw[IntKind.wrap_i64];omega
   have g1:(i:Int)≤(j:Int):=by omega
   have g2:¬c=i:=by omega
   have g3:(j:Int)≤(c:Int):=by omega
   have hS2:=hide ((show SB B V n k 0 (i+8)by rw[←hij];exact hS.out).word hB hlt)
   have HIJ:=hide hij
   have HVL:=hide hVl
   clear hij hl hVl
   go_wp2_with fail
   go_region_with (go_at_call 137;refine C.out.mono ?_;rintro e w' ⟨rfl,k2,rfl⟩)
   all_goals
    have hm2:Mod [p] w ((wr.drewN (1+k2)).setCell ⟨p,k,none⟩ (u64 (be8 B i))):=(hm.drewN _).setCell _ _ (by simp)
    have hx2:NatIs ((wr.drewN (1+k2)).setCell ⟨p,k,none⟩ (u64 (be8 B i))) x p (V.set k (be8 B i)) R:=
     (hx.drewN (1+k2)).put (by simp) (Below.heap_setCell _ _ _ _ hx.ne) (row_set (hx.drewN (1+k2)).row (by rw[HVL.out];exact hlt))
    go_wp2_with fail
    go_roundw
    case rel=>exact⟨i,k+1,_,rfl,by go_num,by omega,hS2,by have:=HIJ.out;omega,hm2,hx2⟩
    case measure=>have:=HIJ.out;simp[intOf];omega
  ·have hex:(k<n∧j<8)∨(¬k<n∧j=0∧k=n):=by omega
   clear hgo hl hj hk
   have HVL:=hide hVl
   clear hVl hcx
   obtain⟨wo,rfl⟩:∃wo:World,wo=wr:=⟨_,rfl⟩
   rcases hex with⟨h1,h2⟩|⟨h1,rfl,h3⟩
   ·have h8:¬(8:Int)≤(j:Int):=by omega
    have hcx:=hx.cell
    rw[HVL.out]at hcx
    go_wp2_with fail
    clear hcx h8
    go_loopw [5,7] (fun i s wr=>∃(jn sn t:Nat) (V:List Nat),i=i64 jn∧s=i64 sn∧Hid (sn=8*t)∧jn+t<8∧sn<64∧Hid (SB B V n k t jn)∧Mod [p] w wr∧NatIs wr x p V R) (fun i _ _=>(intOf i).toNat)
    case atStart=>exact⟨j,0,0,V,rfl,rfl,hide rfl,h2,by omega,hS,hm,hx⟩
    case round=>
     clear hm hx hS HVL h2 V
     obtain⟨j,sn,t,V,rfl,rfl,hs,h2,hs2,hS,hm,hx⟩:=hrel
     have hVl:=hS.out.len
     have hl:=hS.out.left
     have hcx:=hx.cell
     rw[hVl]at hcx
     by_cases h0:0<j
     ·obtain⟨i,hij⟩:∃i,j=i+1:=⟨j-1,by omega⟩
      have hcp:=hx.at k (by omega)
      have hfp:=hx.row.frozen k
      have hcb:=(hb.mod hm (by simpa using hne)) i (by omega)
      have e1:IntKind.i64.wrap ((j:Int)-1)=(i:Int):=by rw[IntKind.wrap_i64];omega
      have ebt:IntKind.u64.wrap (nth B i:Int)=(nth B i:Int):=by have:=hB i;exact u64_wrap_id _ (by omega) (by omega)
      have hib:(i:Int)<(B.length:Int):=by omega
      have hS1:SB B V n k t (i+1):=by rw[←hij];exact hS.out
      have hcur:nth V k<256^t:=by rw[hS1.cur];exact bseg_lt hB _ _
      have hor:=byte_or t hs.out (by omega) hcur (hB i)
      have hS2:=hide (hS1.byte hB h1 (by omega))
      obtain⟨nw,hnw⟩:∃nw,nw=nth V k+nth B i*2^(8*t):=⟨_,rfl⟩
      rw[←hnw]at hor hS2
      have HIJ:=hide hij
      have HVL:=hide hVl
      have h2':i+(t+1)<8:=by omega
      have hs3:Hid (sn+8=8*(t+1)∧sn+8<64):=hide (by have:=hs.out;omega)
      have e8:IntKind.i64.wrap ((sn:Int)+8)=((sn+8:Nat):Int):=by rw[IntKind.wrap_i64];omega
      clear hij hl hVl hnw hcur h2 hS hs hS1
      go_wp2_with fail
      go_region_with (fail)
      all_goals
       have hm2:Mod [p] w ((wr.setCell ⟨p,k,none⟩ (.int .u64 (nw:Int))).drew):=(hm.setCell _ _ (by simp)).drew
       have hx2:NatIs ((wr.setCell ⟨p,k,none⟩ (.int .u64 (nw:Int))).drew) x p (V.set k nw) R:=
        (hx.put (by simp) (Below.heap_setCell _ _ _ _ hx.ne) (row_set hx.row (by rw[HVL.out];exact h1))).drew
       go_wp2_with fail
       go_roundw
       case rel=>exact⟨i,sn+8,t+1,_,rfl,by go_num,hide hs3.out.1,h2',hs3.out.2,hS2,hm2,hx2⟩
       case measure=>have:=HIJ.out;simp[intOf];omega
     ·obtain rfl:j=0:=by omega
      have hdone:=hide hS.out.done
      clear h2 hl hs hS h0
      go_wp2_with fail
      go_ret
      exact⟨V,rfl,hm,hx,hdone.out⟩
   ·have hdone:=hide hS.out.done
    have hcx:=hx.cell
    rw[HVL.out]at hcx
    go_wp2_with fail
    go_loop [5,7] (fun i s=>i=i64 0∧s=i64 0) (fun _ _=>0)
    case atStart=>exact⟨rfl,rfl⟩
    case round=>
     obtain⟨rfl,rfl⟩:=hrel
     go_wp2_with fail
     go_ret
     first|exact⟨V,rfl,hm,hx,hdone.out⟩|exact⟨rfl,hm,V,hx,hdone.out⟩
set_option maxRecDepth 100000 in
theorem c_setBytes_nil(x p:Nat)(R:List Nat)(w:World)(h:NatIs w x p [] R)(a:Option Addr)(c:Nat) :
 Calls Tryz.prog 111 #[ptr x,.slice a 0 c] w fun e w'=>e=.returned .nilIface∧w=w':=by
 have hcx:=h.cell
 simp only[List.length_nil]at hcx
 go_enter Tryz.func111,Tryz.ntmps111
 go_wp2_with fail
 go_loop [5,6] (fun i k=>i=i64 0∧k=i64 0) (fun _ _=>0)
 case atStart=>exact⟨rfl,rfl⟩
 case round=>
  obtain⟨rfl,rfl⟩:=hrel
  go_wp2_with fail
  go_loop [5,7] (fun i s=>i=i64 0∧s=i64 0) (fun _ _=>0)
  case atStart=>exact⟨rfl,rfl⟩
  case round=>
   obtain⟨rfl,rfl⟩:=hrel
   go_wp2_with fail
   go_ret
   exact⟨rfl,rfl⟩
def Apart(v:Value)(p:Nat):Prop:=∀b o n c,v=sl b o n c→b≠p
theorem c_setBytesS(x p n:Nat)(v:Value)(R B:List Nat)(w:World)(h:NatIs w x p (List.replicate n 0) R)(hb:SliceB w v B)(hB:Bytes B)(hne:Apart v p)(hn:n=(B.length+7)/8) :
 Calls Tryz.prog 111 #[ptr x,v] w fun e w'=>
  ∃V,e=.returned .nilIface∧Mod [p] w w'∧NatIs w' x p V R∧V.length=n∧Words V∧val V=bval B:=by
 rcases hb with⟨rfl,rfl⟩|⟨a,c,rfl,rfl⟩|⟨b,o,c,rfl,hc,hb⟩
 ·obtain rfl:n=0:=by simp at hn;omega
  refine(c_setBytes_nil x p R w h none 0).mono ?_
  rintro e w' ⟨rfl,rfl⟩
  exact⟨[],rfl,Mod.refl _ _,h,rfl,Words.nil,rfl⟩
 ·obtain rfl:n=0:=by simp at hn;omega
  refine(c_setBytes_nil x p R w h (some a) c).mono ?_
  rintro e w' ⟨rfl,rfl⟩
  exact⟨[],rfl,Mod.refl _ _,h,rfl,Words.nil,rfl⟩
 ·exact c_setBytes x p n b o c R B w h hb hB hc (hne _ _ _ _ rfl) (by omega)
theorem SliceB.mod{w w':World}{S:List Nat}{v:Value}{B:List Nat}(h:SliceB w v B)(m:Mod S w w')(hS:∀x,x∈S→Apart v x):SliceB w' v B:=by
 rcases h with⟨rfl,rfl⟩|⟨a,c,rfl,rfl⟩|⟨b,o,c,rfl,hc,hb⟩
 ·exact .inl ⟨rfl,rfl⟩
 ·exact .inr (.inl ⟨a,c,rfl,rfl⟩)
 ·refine .inr (.inr ?_)
  exact⟨b,o,c,rfl,hc,hb.mod m (fun hx=>hS b hx _ _ _ _ rfl rfl)⟩
theorem trim_facts{V:List Nat}(hW:Words V):Words (V.take (trimN V V.length))∧val (V.take (trimN V V.length))=val V ∧
 ((V.take (trimN V V.length)).length≠0→nth (V.take (trimN V V.length)) ((V.take (trimN V V.length)).length-1)≠0)∧(V.take (trimN V V.length)).length≤V.length:=by
 have hle:=trimN_le V V.length
 have hl:(V.take (trimN V V.length)).length=trimN V V.length:=by simp;omega
 refine⟨hW.take _,?_,?_,by omega⟩
 ·rw[trimN_val V.length (Nat.le_refl _),List.take_length]
 ·rw[hl]
  intro h0
  have:=trimN_top V.length h0
  have e:nth (V.take (trimN V V.length)) (trimN V V.length-1)=nth V (trimN V V.length-1):=by
   simp[nth,show trimN V V.length-1<trimN V V.length by omega]
  rw[e]
  exact this
set_option maxRecDepth 100000 in
theorem c_resetToBytes(x p:Nat)(v:Value)(L R B:List Nat)(w:World)(h:NatIs w x p L R)(hb:SliceB w v B)(hB:Bytes B)(hx:Apart v x)(hp:Apart v p)(hnew:∀b o n c,v=sl b o n c→b<w.heap.size)(hbig:B.length≤100000) :
 Calls Tryz.prog 105 #[ptr x,v] w fun e w'=>
  ∃p' V R',e=.returned (ptr x)∧Mod [x,p] w w'∧NatIs w' x p' V R'∧Kept w p p'∧Words V∧val V=bval B∧(V.length≠0→nth V (V.length-1)≠0)∧V.length≤(B.length+7)/8:=by
 obtain⟨n,hn⟩:∃n,n=(B.length+7)/8:=⟨_,rfl⟩
 have hcases:∃a c,v=.slice a B.length c:=by
  rcases hb with⟨rfl,rfl⟩|⟨a,c,rfl,rfl⟩|⟨b,o,c,rfl,hc,hb⟩
  ·exact⟨_,_,rfl⟩
  ·exact⟨_,_,rfl⟩
  ·exact⟨_,_,rfl⟩
 obtain⟨a,c,hv⟩:=hcases
 have e3:((B.length:Int)+8-1)/8=(n:Int):=by omega
 have E3:=hide e3
 clear e3
 have H:∀w1,Mod [x,p] w w1→∀p1 R1,NatIs w1 x p1 (List.replicate n 0) R1→Kept w p p1→Hid (SliceB w1 v B∧Apart v p1):=by
  intro w1 m1 p1 R1 h1 k1
  refine hide ⟨hb.mod m1 (by simp;exact⟨hx,hp⟩),?_⟩
  intro b o n c hv
  have h0:=hp _ _ _ _ hv
  have h2:=hnew _ _ _ _ hv
  rcases k1 with k1|k1
  ·rw[k1];exact h0
  ·omega
 subst hv
 go_enter Tryz.func105,Tryz.ntmps105
 go_wp2_with fail
 rw[E3.out]
 refine(c_reset x p n L R _ h (by omega)).mono ?_
 rintro e w1 ⟨p1,R1,rfl,m1,hx1,k1⟩
 have HH:=H w1 m1 p1 R1 hx1 k1
 go_wp2_with fail
 refine(c_setBytesS x p1 n _ R1 B _ hx1 HH.out.1 hB HH.out.2 hn).mono ?_
 rintro e w2 ⟨V,rfl,m2,hx2,hVl,hVw,hVv⟩
 go_wp2_with fail
 refine(c_trim x p1 V R1 _ hx2).mono ?_
 rintro e w3 ⟨R3,rfl,m3,hx3⟩
 have HF:=hide (trim_facts hVw)
 have m12:Mod [x,p] w w2:=Mod.trans (U:=[x,p]) m1 m2 (fun a ha _=>ha) (fun a ha hlt=>by
  simp at ha
  rcases k1 with hk|hk
  ·simp[ha,hk]
  ·omega)
 have m13:Mod [x,p] w w3:=Mod.trans (U:=[x,p]) m12 m3 (fun a ha _=>ha) (by simp)
 have HN:=hide hn
 have HVL:=hide hVl
 have HVV:=hide hVv
 clear hVl hVv hn
 go_wp2_with fail
 go_ret
 obtain⟨f1,f2,f3,f4⟩:=HF.out
 exact⟨p1,_,R3,rfl,m13,hx3,k1,f1,f2.trans HVV.out,f3,Nat.le_trans f4 (by rw[HVL.out,HN.out];exact Nat.le_refl _)⟩
end Go.Proofs.YtfgmnbmnpihjdaaGreatDoor
namespace Go.Proofs.YtfgmnbmnpihjdaaGreatDoor
theorem nstep_eq(x y:Nat):∃q:Int,(nstep x y:Int)=y*(2-x*y)+W*q:=by
 have hW:=W_pos
 have h3:=Nat.mod_add_div (x*y) W
 have h4:=Nat.mod_lt (x*y) hW
 have h2:=Nat.mod_add_div (W+2-x*y%W) W
 have h1:=Nat.mod_add_div (y*((W+2-x*y%W)%W)) W
 unfold nstep
 generalize hr:x*y%W=r at *
 generalize hs:(W+2-r)%W=s at *
 generalize hu:y*s%W=u at *
 generalize (x*y)/W=q3 at *
 generalize (W+2-r)/W=q2 at *
 generalize (y*s)/W=q1 at *
 have h2':(s:Int)+W*q2=W+2-r:=by
  have:s+W*q2+r=W+2:=by omega
  exact_mod_cast (by omega:((s+W*q2:Nat):Int)=(W:Int)+2-r)
 have h1':(u:Int)+W*q1=y*s:=by exact_mod_cast h1
 have h3':(r:Int)+W*q3=x*y:=by exact_mod_cast h3
 refine⟨y*(1-q2+q3)-q1,?_⟩
 grind
theorem nstep_law{x y:Nat}{c d:Int}(hc:c∣1-(x:Int)*y)(hd:d∣c*c)(hW:d∣(W:Int)):d∣1-(x:Int)*nstep x y:=by
 obtain⟨q,hq⟩:=nstep_eq x y
 obtain⟨a,ha⟩:=hc
 obtain⟨b,hb⟩:=hd
 obtain⟨e,he⟩:=hW
 refine⟨b*a*a-e*(x*q),?_⟩
 rw[hq]
 grind
theorem odd_sq{x:Nat}(h:x%2=1):(8:Int)∣1-(x:Int)*x:=by
 obtain⟨k,rfl⟩:∃k,x=2*k+1:=⟨x/2,by omega⟩
 obtain⟨j,hj⟩:∃j,k*(k+1)=2*j:=by
  rcases Nat.mod_two_eq_zero_or_one k with h0|h0
  ·exact⟨k/2*(k+1),by rw[←Nat.mul_assoc,show 2*(k/2)=k by omega]⟩
  ·exact⟨k*((k+1)/2),by rw[Nat.mul_left_comm,show 2*((k+1)/2)=k+1 by omega]⟩
 refine⟨-(j:Int),?_⟩
 have hj':(k:Int)*(k+1)=2*j:=by exact_mod_cast hj
 push_cast
 grind
theorem newton_law{x:Nat}(h:x%2=1):(W:Int)∣1-(x:Int)*newton x 5:=by
 have h0:=odd_sq h
 have h1:=nstep_law (d:=64) h0 (by decide) (by rw[W_eq];decide)
 have h2:=nstep_law (d:=4096) h1 (by decide) (by rw[W_eq];decide)
 have h3:=nstep_law (d:=16777216) h2 (by decide) (by rw[W_eq];decide)
 have h4:=nstep_law (d:=281474976710656) h3 (by decide) (by rw[W_eq];decide)
 have h5:=nstep_law (d:=(W:Int)) h4 (by rw[W_eq];decide) (Int.dvd_refl _)
 exact h5
theorem m0inv_law{x:Nat}(h:x%2=1):(m0inv x*x)%W=W-1:=by
 obtain⟨a,ha⟩:=newton_law h
 have hx:x%2=1:=h
 have hlt:newton x 5<W:=Nat.mod_lt _ W_pos
 have hne:newton x 5≠0:=by
  intro h0
  rw[h0]at ha
  have:(W:Int)*a=1:=by simpa using ha.symm
  have h2:(2:Int)∣1:=⟨9223372036854775808*a,by rw[W_eq]at this;omega⟩
  omega
 have e:m0inv x=W-newton x 5:=by unfold m0inv;rw[Nat.mod_eq_of_lt (by omega)]
 rw[e]
 generalize newton x 5=y at *
 have h1:((W-y:Nat):Int)=(W:Int)-y:=by omega
 have h2:(((W-y)*x:Nat):Int)=(W:Int)*(x+a-1)+(W-1):=by
  rw[Int.natCast_mul,h1]
  grind
 have hW:=W_pos
 have h3:(((W-y)*x%W:Nat):Int)=(W:Int)-1:=by
  rw[Int.natCast_emod,h2,Int.mul_add_emod_self_left,Int.emod_eq_of_lt (by omega) (by omega)]
 omega
end Go.Proofs.YtfgmnbmnpihjdaaGreatDoor
