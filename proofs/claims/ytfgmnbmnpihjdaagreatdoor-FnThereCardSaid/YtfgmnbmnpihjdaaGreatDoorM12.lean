/- Lemmas of mine for the walk and its plain laws: NatE WordsC NatF NatG WordsD NatH -/
import Derived.Test.YtfgmnbmnpihjdaaGreatDoorM11
set_option linter.all false
set_option maxHeartbeats 1600000
namespace Go.Proofs.YtfgmnbmnpihjdaaGreatDoor
open Go.RowKit
theorem map_u64_inj:∀{A B:List Nat},A.map u64=B.map u64→A=B
 | [],[],_=>rfl
 | [],b::B,h=>by simp at h
 |a::A,[],h=>by simp at h
 |a::A,b::B,h=>by
  simp only[List.map_cons,List.cons.injEq,Value.int.injEq,true_and]at h
  rw[map_u64_inj h.2,show a=b by omega]
theorem ret_word{a b:Nat}(h:a=b):u64 a=u64 b:=by rw[h]
theorem read_other{w wr:World}{x y px py k:Nat}{Lx Rx Ly Ry V:List Nat}(hx:NatIs w x px Lx Rx)(hy:NatIs w y py Ly Ry)(hm:Mod [px] w wr)
 (hr:Blk wr px 51 ((V++Rx).map u64)) (hl:V.length=Lx.length) (hv:nth V k=nth Lx k) (hk:k<Lx.length) (hk2:k<Ly.length) :
 wr.cell? ⟨py,k,none⟩=some (u64 (nth Ly k)):=by
 by_cases e:py=px
 ·subst e
  have:=map_u64_inj (hx.row.ext hy.row).2
  rw[hr.at k (by simp;omega),nth_append_left (by omega),hv]
  have h2:nth (Lx++Rx) k=nth (Ly++Ry) k:=by rw[this]
  rw[nth_append_left hk,nth_append_left hk2]at h2
  rw[h2]
 ·exact(hy.row.mod hm (by simpa using e)).at k (by simp;omega) |>.trans (by rw[nth_append_left hk2])
theorem NatIs.done{w w':World}{x p:Nat}{L R V:List Nat}(h:NatIs w x p L R)(hm:Mod [p] w w')(hr:Blk w' p 51 ((V++R).map u64))(hl:V.length=L.length):NatIs w' x p V R:=
 h.put hl (hm.block x h.xlt (by simpa using h.ne)) hr
theorem row_set{wr:World}{p k v:Nat}{V R:List Nat}(h:Blk wr p 51 ((V++R).map u64))(hk:k<V.length) :
 Blk (wr.setCell ⟨p,k,none⟩ (u64 v)) p 51 ((V.set k v++R).map u64):=by
 have:=h.set k v
 rwa [List.set_append_left _ _ hk]at this
set_option maxRecDepth 100000 in
theorem c_add(x y px py:Nat)(Lx Rx Ly Ry:List Nat)(w:World)(hx:NatIs w x px Lx Rx)(hy:NatIs w y py Ly Ry)(hlen:Ly.length=Lx.length)(wx:Words Lx)(wy:Words Ly) :
 Calls Tryz.prog 125 #[ptr x,ptr y] w fun e w'=>
  e=.returned (u64 (addC Lx Ly Lx.length))∧Mod [px] w w'∧NatIs w' x px (addL Lx Ly Lx.length) Rx:=by
 have hcx:=hx.cell
 have hcy:=hy.cell
 have hcap:=hx.cap
 have hcapy:=hy.cap
 rw[hlen]at hcy
 have H1:=hide hlen
 have hle:Lx.length≤Lx.length+Ry.length:=by omega
 clear hlen
 go_enter Tryz.func125,Tryz.ntmps125
 go_wp2_with fail
 go_loopw [4,8] (fun c i wr=>∃k:Nat,k≤Lx.length∧i=i64 k∧c=u64 (addC Lx Ly k)∧Mod [px] w wr∧Blk wr px 51 ((addL Lx Ly k++Rx).map u64)) (fun _ i _=>Lx.length-(intOf i).toNat)
 case atStart=>exact⟨0,Nat.zero_le _,rfl,rfl,Mod.refl _ _,hx.row⟩
 case round=>
  obtain⟨k,hk,rfl,rfl,hm,hr⟩:=hrel
  by_cases hlt:k<Lx.length
  ·have h1:wr.cell? ⟨px,k,none⟩=some (u64 (nth Lx k)):=by
    rw[hr.at k (by simp[addL_length];omega),nth_append_left (by rw[addL_length];exact hlt),addL_at _ _ (Nat.le_refl _)]
   have h2:=read_other hx hy hm hr (addL_length _ _ _) (addL_at _ _ (Nat.le_refl _)) hlt (by rw[H1.out];exact hlt)
   have h3:=hr.frozen k
   have hc1:=addC_le wx wy k
   have hs:Hid (addHi (nth Lx k) (nth Ly k) (addC Lx Ly k)=addC Lx Ly (k+1)):=hide rfl
   have hm2:Mod [px] w (wr.setCell ⟨px,k,none⟩ (u64 (addLo (nth Lx k) (nth Ly k) (addC Lx Ly k)))).drew:=(hm.setCell _ _ (by simp)).drew
   have hr2:Blk (wr.setCell ⟨px,k,none⟩ (u64 (addLo (nth Lx k) (nth Ly k) (addC Lx Ly k)))).drew px 51 ((addL Lx Ly (k+1)++Rx).map u64):=
    row_set hr (by rw[addL_length];exact hlt)
   clear hm hr
   go_wp2_with fail
   go_region_with (first|(go_at_call 141;refine(c_Add _ _ _ hc1 _).mono ?_;rintro e w' ⟨rfl,rfl⟩))
   all_goals go_wp2_with fail
   all_goals go_roundw
   all_goals first
    |exact⟨k+1,by omega,by go_num,ret_word hs.out,hm2,hr2⟩
    |(simp[intOf];omega)
  ·obtain rfl:k=Lx.length:=by omega
   have hfin:=hx.done hm hr (addL_length _ _ _)
   go_wp2_with fail
   go_ret
   exact⟨rfl,hm,hfin⟩
set_option maxRecDepth 100000 in
theorem c_sub(x y px py:Nat)(Lx Rx Ly Ry:List Nat)(w:World)(hx:NatIs w x px Lx Rx)(hy:NatIs w y py Ly Ry)(hlen:Ly.length=Lx.length) :
 Calls Tryz.prog 124 #[ptr x,ptr y] w fun e w'=>
  e=.returned (u64 (subC Lx Ly Lx.length))∧Mod [px] w w'∧NatIs w' x px (subL Lx Ly Lx.length) Rx:=by
 have hcx:=hx.cell
 have hcy:=hy.cell
 have hcap:=hx.cap
 have hcapy:=hy.cap
 rw[hlen]at hcy
 have H1:=hide hlen
 have hle:Lx.length≤Lx.length+Ry.length:=by omega
 clear hlen
 go_enter Tryz.func124,Tryz.ntmps124
 go_wp2_with fail
 go_loopw [4,8] (fun c i wr=>∃k:Nat,k≤Lx.length∧i=i64 k∧c=u64 (subC Lx Ly k)∧Mod [px] w wr∧Blk wr px 51 ((subL Lx Ly k++Rx).map u64)) (fun _ i _=>Lx.length-(intOf i).toNat)
 case atStart=>exact⟨0,Nat.zero_le _,rfl,rfl,Mod.refl _ _,hx.row⟩
 case round=>
  obtain⟨k,hk,rfl,rfl,hm,hr⟩:=hrel
  by_cases hlt:k<Lx.length
  ·have h1:wr.cell? ⟨px,k,none⟩=some (u64 (nth Lx k)):=by
    rw[hr.at k (by simp[subL_length];omega),nth_append_left (by rw[subL_length];exact hlt),subL_at _ _ (Nat.le_refl _)]
   have h2:=read_other hx hy hm hr (subL_length _ _ _) (subL_at _ _ (Nat.le_refl _)) hlt (by rw[H1.out];exact hlt)
   have h3:=hr.frozen k
   have hc1:=subC_le Lx Ly k
   have hs:Hid (subHi (nth Lx k) (nth Ly k) (subC Lx Ly k)=subC Lx Ly (k+1)):=hide rfl
   have hm2:Mod [px] w (wr.setCell ⟨px,k,none⟩ (u64 (subLo (nth Lx k) (nth Ly k) (subC Lx Ly k)))).drew:=(hm.setCell _ _ (by simp)).drew
   have hr2:Blk (wr.setCell ⟨px,k,none⟩ (u64 (subLo (nth Lx k) (nth Ly k) (subC Lx Ly k)))).drew px 51 ((subL Lx Ly (k+1)++Rx).map u64):=
    row_set hr (by rw[subL_length];exact hlt)
   clear hm hr
   go_wp2_with fail
   go_region_with (first|(go_at_call 138;refine(c_Sub _ _ _ hc1 _).mono ?_;rintro e w' ⟨rfl,rfl⟩))
   all_goals go_wp2_with fail
   all_goals go_roundw
   all_goals first
    |exact⟨k+1,by omega,by go_num,ret_word hs.out,hm2,hr2⟩
    |(simp[intOf];omega)
  ·obtain rfl:k=Lx.length:=by omega
   have hfin:=hx.done hm hr (subL_length _ _ _)
   go_wp2_with fail
   go_ret
   exact⟨rfl,hm,hfin⟩
def stepLo(x y z c:Nat):Nat:=addLo (addLo (mulLo x y) z 0) c 0
def stepHi(x y z c:Nat):Nat:=addLo (addLo (mulHi x y) 0 (addHi (mulLo x y) z 0)) 0 (addHi (addLo (mulLo x y) z 0) c 0)
theorem stepLo_lt(x y z c:Nat):stepLo x y z c<W:=addLo_lt _ _ _
theorem stepHi_lt(x y z c:Nat):stepHi x y z c<W:=addLo_lt _ _ _
theorem addLo_small{x y c:Nat}(h:x+y+c<W):addLo x y c=x+y+c:=Nat.mod_eq_of_lt h
theorem step_eq{x y z c:Nat}(hx:x<W)(hy:y<W)(hz:z<W)(hc:c<W):stepLo x y z c+W*stepHi x y z c=x*y+z+c:=by
 have e1:=mul_eq x y
 have e2:=add_eq (mulLo x y) z 0
 have e3:=add_eq (addLo (mulLo x y) z 0) c 0
 have b1:=mulLo_lt x y
 have l1:=addLo_lt (mulLo x y) z 0
 have h1:=addHi_le (c:=0) b1 hz (by omega)
 have h2:=addHi_le (c:=0) l1 hc (by omega)
 have hprod:x*y≤(W-1)*(W-1):=Nat.mul_le_mul (by omega) (by omega)
 have hW:=W_eq
 have hm:mulHi x y+addHi (mulLo x y) z 0+addHi (addLo (mulLo x y) z 0) c 0<W:=by
  have:W*(mulHi x y+addHi (mulLo x y) z 0+addHi (addLo (mulLo x y) z 0) c 0)≤x*y+z+c:=by
   rw[Nat.mul_add,Nat.mul_add]
   omega
  have h3:x*y+z+c<W*W:=by
   have:(W-1)*(W-1)+(W-1)+(W-1)<W*W:=by rw[W_eq];omega
   omega
  exact Nat.lt_of_mul_lt_mul_left (Nat.lt_of_le_of_lt this h3)
 have f1:addLo (mulHi x y) 0 (addHi (mulLo x y) z 0)=mulHi x y+addHi (mulLo x y) z 0:=addLo_small (by omega)
 have f2:stepHi x y z c=mulHi x y+addHi (mulLo x y) z 0+addHi (addLo (mulLo x y) z 0) c 0:=by
  unfold stepHi
  rw[f1]
  exact addLo_small (by omega)
 rw[f2]
 unfold stepLo
 rw[Nat.mul_add,Nat.mul_add]
 omega
def mulC(Z X:List Nat)(oz ox y:Nat):Nat→Nat
 |0=>0
 |i+1=>stepHi (nth X (ox+i)) y (nth Z (oz+i)) (mulC Z X oz ox y i)
def mulL(Z X:List Nat)(oz ox y:Nat):Nat→List Nat
 |0=>Z
 |i+1=>(mulL Z X oz ox y i).set (oz+i) (stepLo (nth X (ox+i)) y (nth Z (oz+i)) (mulC Z X oz ox y i))
theorem mulC_lt(Z X:List Nat)(oz ox y i:Nat):mulC Z X oz ox y i<W:=by
 cases i with
 |zero=>exact W_pos
 |succ i=>exact stepHi_lt _ _ _ _
theorem mulL_length(Z X:List Nat)(oz ox y i:Nat):(mulL Z X oz ox y i).length=Z.length:=by
 induction i with
 |zero=>rfl
 |succ i ih=>simp[mulL,ih]
theorem mulL_words{Z:List Nat}(hZ:Words Z)(X:List Nat)(oz ox y i:Nat):Words (mulL Z X oz ox y i):=by
 induction i with
 |zero=>exact hZ
 |succ i ih=>exact ih.set _ (stepLo_lt _ _ _ _)
theorem mulL_at(Z X:List Nat)(oz ox y:Nat){i j:Nat}(h:oz+i≤j):nth (mulL Z X oz ox y i) j=nth Z j:=by
 induction i with
 |zero=>rfl
 |succ i ih=>simp only[mulL];rw[nth_set_ne (by omega),ih (by omega)]
theorem mulL_below(Z X:List Nat)(oz ox y i:Nat){j:Nat}(h:j<oz):nth (mulL Z X oz ox y i) j=nth Z j:=by
 induction i with
 |zero=>rfl
 |succ i ih=>simp only[mulL];rw[nth_set_ne (by omega),ih]
def seg(Z:List Nat)(o:Nat):Nat→Nat
 |0=>0
 |i+1=>seg Z o i+W^i*nth Z (o+i)
theorem seg_whole(Z:List Nat):∀i,i≤Z.length→seg Z 0 i=val (Z.take i):=by
 intro i
 induction i with
 |zero=>intro _;rfl
 |succ i ih=>
  intro h
  rw[val_take_succ (by omega),←ih (by omega)]
  simp[seg]
theorem seg_congr{A B:List Nat}{o o':Nat}:∀i,(∀j,j<i→nth A (o+j)=nth B (o'+j))→seg A o i=seg B o' i:=by
 intro i
 induction i with
 |zero=>intro _;rfl
 |succ i ih=>
  intro h
  simp only[seg]
  rw[ih (fun j hj=>h j (by omega)),h i (by omega)]
theorem mulL_seg{Z X:List Nat}(hZ:Words Z)(hX:Words X){oz ox y:Nat}(hy:y<W):∀i,oz+i≤Z.length →
 seg (mulL Z X oz ox y i) oz i+W^i*mulC Z X oz ox y i=seg Z oz i+y*seg X ox i:=by
 intro i
 induction i with
 |zero=>intro _;simp[seg,mulC]
 |succ i ih=>
  intro h
  have e:=ih (by omega)
  have s:=step_eq (hX.nth (ox+i)) hy (hZ.nth (oz+i)) (mulC_lt Z X oz ox y i)
  simp only[seg,mulC,mulL]
  rw[nth_set_same (by rw[mulL_length];omega)]
  have c:seg ((mulL Z X oz ox y i).set (oz+i) (stepLo (nth X (ox+i)) y (nth Z (oz+i)) (mulC Z X oz ox y i))) oz i=seg (mulL Z X oz ox y i) oz i:=
   seg_congr i fun j hj=>nth_set_ne (by omega)
  rw[c]
  have e2:W^i*stepLo (nth X (ox+i)) y (nth Z (oz+i)) (mulC Z X oz ox y i)+W^(i+1)*stepHi (nth X (ox+i)) y (nth Z (oz+i)) (mulC Z X oz ox y i)
   = W^i*(nth X (ox+i)*y)+W^i*nth Z (oz+i)+W^i*mulC Z X oz ox y i:=by
   rw[Nat.pow_succ,Nat.mul_assoc,←Nat.mul_add,s,Nat.mul_add,Nat.mul_add]
  have e3:y*(seg X ox i+W^i*nth X (ox+i))=y*seg X ox i+W^i*(nth X (ox+i)*y):=by
   rw[Nat.mul_add]
   congr 1
   rw[Nat.mul_left_comm,Nat.mul_comm y]
  omega
theorem xor_nat{a b:Nat}(ha:a<W)(hb:b<W):bits .xor .u64 (a:Int) (b:Int)=((a ^^^ b:Nat):Int):=by
 rw[W_eq]at *
 have hx:a ^^^ b<2^64:=Nat.xor_lt_two_pow (by simpa using ha) (by simpa using hb)
 simp only[bits,BitVec.ofInt_natCast,BitVec.toNat_xor,BitVec.toNat_ofNat]
 have ea:a%2^IntKind.u64.bits=a:=Nat.mod_eq_of_lt (by simpa [IntKind.bits]using ha)
 have eb:b%2^IntKind.u64.bits=b:=Nat.mod_eq_of_lt (by simpa [IntKind.bits]using hb)
 rw[ea,eb]
 have:=wrapW (a ^^^ b)
 rw[W_eq,Nat.mod_eq_of_lt (by simpa using hx)]at this
 exact this
theorem mask_word{on x y:Nat}(hon:on≤1)(hx:x<W)(hy:y<W) :
 bits .xor .u64 (x:Int) (bits .and .u64 ((maskB on:Nat):Int) (bits .xor .u64 (x:Int) (y:Int)))=(((if on=0 then x else y):Nat):Int):=by
 rw[xor_nat hx hy]
 have hxy:x ^^^ y<W:=by
  rw[W_two]at *
  exact Nat.xor_lt_two_pow hx hy
 have h01:on=0∨on=1:=by omega
 rcases h01 with rfl|rfl
 ·have h:=bits_and_u64_nat (maskB 0) (x ^^^ y) (by decide) (by rw[W_eq]at hxy;exact hxy)
  rw[h,show maskB 0=0 from rfl,Nat.zero_and,xor_nat hx W_pos,Nat.xor_zero]
  rfl
 ·have h:=bits_and_u64_nat (maskB 1) (x ^^^ y) (by decide +kernel) (by rw[W_eq]at hxy;exact hxy)
  have e:maskB 1 &&& (x ^^^ y)=x ^^^ y:=by
   rw[show maskB 1=2^64-1 from rfl,Nat.and_comm,Nat.and_two_pow_sub_one_eq_mod,←W_two,Nat.mod_eq_of_lt hxy]
  rw[h,e,xor_nat hx hxy,←Nat.xor_assoc,Nat.xor_self,Nat.zero_xor]
  rfl
def selW(on:Nat)(X Y:List Nat):List Nat:=if on=0 then X else Y
set_option maxRecDepth 100000 in
theorem c_assign(x y px py on:Nat)(Lx Rx Ly Ry:List Nat)(w:World)(hx:NatIs w x px Lx Rx)(hy:NatIs w y py Ly Ry)(hlen:Ly.length=Lx.length)(wx:Words Lx)(wy:Words Ly)(hon:on≤1) :
 Calls Tryz.prog 120 #[ptr x,u64 on,ptr y] w fun e w'=>
  e=.returned (ptr x)∧Mod [px] w w'∧NatIs w' x px (selW on Lx Ly) Rx:=by
 have hcx:=hx.cell
 have hcy:=hy.cell
 have hcap:=hx.cap
 have hcapy:=hy.cap
 rw[hlen]at hcy
 have H1:=hide hlen
 have hle:Lx.length≤Lx.length+Ry.length:=by omega
 have hsel:Hid (selL on Lx Ly Lx.length=selW on Lx Ly):=hide (selL_whole on hlen)
 clear hlen
 go_enter Tryz.func120,Tryz.ntmps120
 go_wp2_with fail
 refine(c_ctMask on hon _).mono ?_;rintro e w' ⟨rfl,rfl⟩
 go_wp2_with fail
 go_loopw [11] (fun i wr=>∃k:Nat,k≤Lx.length∧i=i64 k∧Mod [px] w wr∧Blk wr px 51 ((selL on Lx Ly k++Rx).map u64)) (fun i _=>Lx.length-(intOf i).toNat)
 case atStart=>exact⟨0,Nat.zero_le _,rfl,Mod.refl _ _,hx.row⟩
 case round=>
  obtain⟨k,hk,rfl,hm,hr⟩:=hrel
  by_cases hlt:k<Lx.length
  ·have h1:wr.cell? ⟨px,k,none⟩=some (u64 (nth Lx k)):=by
    rw[hr.at k (by simp[selL_length];omega),nth_append_left (by rw[selL_length];exact hlt),selL_at _ _ _ (Nat.le_refl _)]
   have h2:=read_other hx hy hm hr (selL_length _ _ _ _) (selL_at _ _ _ (Nat.le_refl _)) hlt (by rw[H1.out];exact hlt)
   have h3:=hr.frozen k
   have hmk:=mask_word hon (wx.nth k) (wy.nth k)
   generalize hv:(if on=0 then nth Lx k else nth Ly k)=v at hmk
   have hm2:Mod [px] w (wr.setCell ⟨px,k,none⟩ (u64 v)).drew:=(hm.setCell _ _ (by simp)).drew
   have hr2:Blk (wr.setCell ⟨px,k,none⟩ (u64 v)).drew px 51 ((selL on Lx Ly (k+1)++Rx).map u64):=by
    simp only[selL]
    rw[hv]
    exact row_set hr (by rw[selL_length];exact hlt)
   clear hm hr hv
   go_wp2_with fail
   go_region_with (fail)
   all_goals go_wp2_with fail
   all_goals go_roundw
   all_goals first
    |exact⟨k+1,by omega,by go_num,hm2,hr2⟩
    |(simp[intOf];omega)
  ·obtain rfl:k=Lx.length:=by omega
   have hfin:=hx.done hm hr (selL_length _ _ _ _)
   rw[hsel.out]at hfin
   go_wp2_with fail
   go_ret
   exact⟨rfl,hm,hfin⟩
set_option maxRecDepth 100000 in
theorem c_addMulVVW(bz oz n cz bx ox nx cx y:Nat)(Z X:List Nat)(w:World)(hz:Blk w bz 51 (Z.map u64))(hx:Blk w bx 51 (X.map u64))(hne:bx≠bz)(hn:0<n)(hnx:n≤nx)
 (hoz:oz+n≤Z.length) (hox:ox+nx≤X.length) (wZ:Words Z) (wX:∀j,j<n→nth X (ox+j)<W) (hy:y<W) (hbig:n≤100000) :
 Calls Tryz.prog 126 #[sl bz oz n cz,sl bx ox nx cx,u64 y] w fun e w'=>
  e=.returned (u64 (mulC Z X oz ox y n))∧Mod [bz] w w'∧Blk w' bz 51 ((mulL Z X oz ox y n).map u64):=by
 have hx0:=hx.at (ox+(n-1)) (by omega)
 have e1:Hid ((n:Int)-1=((n-1:Nat):Int)):=hide (by omega)
 have g1:(((n-1:Nat):Int))<(nx:Int):=by omega
 have hHy:=hide hy
 have WX:=hide wX
 clear hy wX
 go_enter Tryz.func126,Tryz.ntmps126
 go_wp2_with fail
 go_loopw [6,19] (fun c i wr=>∃k:Nat,k≤n∧i=i64 k∧c=u64 (mulC Z X oz ox y k)∧Mod [bz] w wr∧Blk wr bz 51 ((mulL Z X oz ox y k).map u64)) (fun _ i _=>n-(intOf i).toNat)
 case atStart=>exact⟨0,Nat.zero_le _,rfl,rfl,Mod.refl _ _,hz⟩
 case round=>
  obtain⟨k,hk,rfl,rfl,hm,hr⟩:=hrel
  by_cases hlt:k<n
  ·have hzc:wr.cell? ⟨bz,oz+k,none⟩=some (u64 (nth Z (oz+k))):=by
    rw[hr.at (oz+k) (by rw[mulL_length];omega),mulL_at _ _ _ _ _ (Nat.le_refl _)]
   have hxc:wr.cell? ⟨bx,ox+k,none⟩=some (u64 (nth X (ox+k))):=(hx.mod hm (by simpa using hne)).at (ox+k) (by omega)
   have hzf:=hr.frozen (oz+k)
   have hc:=mulC_lt Z X oz ox y k
   have b1:=addHi_le (c:=0) (mulLo_lt (nth X (ox+k)) y) (wZ.nth (oz+k)) (by omega)
   have b2:=addHi_le (c:=0) (addLo_lt (mulLo (nth X (ox+k)) y) (nth Z (oz+k)) 0) hc (by omega)
   have hs:Hid (stepHi (nth X (ox+k)) y (nth Z (oz+k)) (mulC Z X oz ox y k)=mulC Z X oz ox y (k+1)):=hide rfl
   have hlo:Hid (addLo (addLo (mulLo (nth X (ox+k)) y) (nth Z (oz+k)) 0) (mulC Z X oz ox y k) 0=stepLo (nth X (ox+k)) y (nth Z (oz+k)) (mulC Z X oz ox y k)):=hide rfl
   have hhi:Hid (addLo (addLo (mulHi (nth X (ox+k)) y) 0 (addHi (mulLo (nth X (ox+k)) y) (nth Z (oz+k)) 0)) 0 (addHi (addLo (mulLo (nth X (ox+k)) y) (nth Z (oz+k)) 0) (mulC Z X oz ox y k) 0)=mulC Z X oz ox y (k+1)):=hide rfl
   have hm2:Mod [bz] w (wr.setCell ⟨bz,oz+k,none⟩ (u64 (stepLo (nth X (ox+k)) y (nth Z (oz+k)) (mulC Z X oz ox y k)))):=hm.setCell _ _ (by simp)
   have hr2:Blk (wr.setCell ⟨bz,oz+k,none⟩ (u64 (stepLo (nth X (ox+k)) y (nth Z (oz+k)) (mulC Z X oz ox y k)))) bz 51 ((mulL Z X oz ox y (k+1)).map u64):=hr.set _ _
   have wXk:=hide (WX.out k hlt)
   clear hm hr hc
   go_wp2_with fail
   refine(c_Mul (nth X (ox+k)) y wXk.out hHy.out _).mono ?_;rintro e w' ⟨rfl,rfl⟩
   go_wp2_with fail
   refine(c_Add (mulLo (nth X (ox+k)) y) (nth Z (oz+k)) 0 (by omega) _).mono ?_;rintro e w' ⟨rfl,rfl⟩
   go_wp2_with fail
   refine(c_Add (mulHi (nth X (ox+k)) y) 0 _ b1 _).mono ?_;rintro e w' ⟨rfl,rfl⟩
   go_wp2_with fail
   refine(c_Add _ (mulC Z X oz ox y k) 0 (by omega) _).mono ?_;rintro e w' ⟨rfl,rfl⟩
   go_wp2_with fail
   refine(c_Add _ 0 _ b2 _).mono ?_;rintro e w' ⟨rfl,rfl⟩
   rw[hhi.out,hlo.out]
   go_wp2_with fail
   go_roundw
   case rel=>exact⟨k+1,by omega,by go_num,rfl,hm2,hr2⟩
   case measure=>simp[intOf];omega
  ·obtain rfl:k=n:=by omega
   go_wp2_with fail
   go_ret
   exact⟨rfl,hm,hr⟩
theorem c_set'(x p y q:Nat)(L R M Q:List Nat)(w:World)(h:NatIs w x p L R)(hy:NatIs w y q M Q)(h1:y≠x)(h4:q≠p) :
 Calls Tryz.prog 107 #[ptr x,ptr y] w fun e w'=>
  ∃p' R',e=.returned (ptr x)∧Mod [x,p] w w'∧NatIs w' x p' M R'∧Kept w p p':=
 c_set x p y q L R M Q w h hy h1 (hy.head.ne h.row (by decide)) (hy.row.ne h.head (by decide)) h4
theorem Kept.ge{w:World}{p p' n:Nat}(h:Kept w p p')(hp:n≤p)(hn:n≤w.heap.size):n≤p':=by
 rcases h with h|h
 ·rw[h];exact hp
 ·omega
structure Below'(L M:List Nat):Prop where
 len:L.length=M.length
 words:Words L
 lt:val L<val M
theorem subtract_row{X M:List Nat}{c:Nat}(hX:Words X)(hM:Words M)(hl:M.length=X.length)(hc:c≤1)(hb:val X+W^X.length*c<2*val M) :
 Below' (selW (max (notB (subC X M X.length)) c) X (subL X M X.length)) M ∧
  val (selW (max (notB (subC X M X.length)) c) X (subL X M X.length))=(val X+W^X.length*c)%val M:=by
 have hs:=subC_whole hX hM hl
 have he:=sub_whole hX hM hl
 have hlt:=val_lt hX
 have hMl:=val_lt hM
 rw[hl]at hMl
 have h01:c=0∨c=1:=by omega
 rcases h01 with rfl|rfl
 ·rw[Nat.mul_zero,Nat.add_zero]at hb ⊢
  by_cases h:val X<val M
  ·rw[if_pos h]at hs
   rw[hs,show selW (max (notB 1) 0) X (subL X M X.length)=X from rfl,Nat.mod_eq_of_lt h]
   exact⟨⟨hl.symm,hX,h⟩,rfl⟩
  ·rw[if_neg h]at hs
   rw[hs]at he ⊢
   rw[show selW (max (notB 0) 0) X (subL X M X.length)=subL X M X.length from rfl]
   have hv:val (subL X M X.length)=val X-val M:=by omega
   refine⟨⟨by rw[subL_length];exact hl.symm,subL_words hX _,by omega⟩,?_⟩
   rw[hv,Nat.mod_eq_sub_mod (by omega),Nat.mod_eq_of_lt (by omega)]
 ·rw[Nat.mul_one]at hb ⊢
  have hXM:val X<val M:=by omega
  rw[if_pos hXM]at hs
  rw[hs]at he ⊢
  rw[show selW (max (notB 1) 1) X (subL X M X.length)=subL X M X.length from rfl]
  have hv:val (subL X M X.length)=val X+W^X.length-val M:=by omega
  refine⟨⟨by rw[subL_length];exact hl.symm,subL_words hX _,by omega⟩,?_⟩
  rw[hv,Nat.mod_eq_sub_mod (by omega),Nat.mod_eq_of_lt (by omega)]
set_option maxRecDepth 100000 in
theorem c_maybeSub(x px m y q k c:Nat)(odd:Bool)(r:Value)(L R M Q:List Nat)(w:World)(hx:NatIs w x px L R)(hm:MHead w m y odd k r)(hy:NatIs w y q M Q)
 (wL:Words L) (wM:Words M) (hl:M.length=L.length) (hc:c≤1) (hb:val L+W^L.length*c<2*val M) :
 Calls Tryz.prog 128 #[ptr x,u64 c,ptr m] w fun e w'=>
  ∃L',e=.returned (.tuple #[])∧Mod [px] w w'∧NatIs w' x px L' R∧Below' L' M∧val L'=(val L+W^L.length*c)%val M:=by
 have hres:=hide (subtract_row wL wM hl hc hb)
 have hxlt:=hx.xlt;have hplt:=hx.plt;have hylt:=hy.xlt;have hqlt:=hy.plt;have hmlt:=hm.lt
 clear hb
 go_enter Tryz.func128,Tryz.ntmps128
 go_wp2_with fail
 refine(c_NewNat _).mono ?_
 rintro e w1 ⟨t,pt,rfl,m1,ht1,g1,g2⟩
 have hx1:=hx.mod m1 (by simp) (by simp)
 go_wp2_with fail
 refine(c_set' t pt x px [] _ L R _ ht1 hx1 (by omega) (by omega)).mono ?_
 rintro e w2 ⟨pt2,Rt,rfl,m2,ht2,k2⟩
 have m12:Mod [] w w2:=Mod.trans (U:=[]) m1 m2 (by simp) (by simp;omega)
 have hpt2:w.heap.size≤pt2:=k2.ge g2 m1.size
 have hx2:=hx.mod m12 (by simp) (by simp)
 have hm2:MHead w2 m y odd k r:=Blk.mod hm m12 (by simp)
 have hy2:=hy.mod m12 (by simp) (by simp)
 have hc2:=hm2.c0
 go_wp2_with fail
 refine(c_sub t y pt2 q L Rt M Q _ ht2 hy2 hl).mono ?_
 rintro e w3 ⟨rfl,m3,ht3⟩
 have m13:Mod [] w w3:=Mod.trans (U:=[]) m12 m3 (by simp) (by simp;omega)
 have hx3:=hx.mod m13 (by simp) (by simp)
 have hb3:=subC_le L M L.length
 have hor:=or_bit (notB_le (subC L M L.length)) hc
 have hle:max (notB (subC L M L.length)) c≤1:=by have:=notB_le (subC L M L.length);omega
 go_wp2_with fail
 refine(c_not _ hb3 _).mono ?_
 rintro e w' ⟨rfl,rfl⟩
 go_wp2_with fail
 refine(c_assign x t px pt2 _ L R _ Rt _ hx3 ht3 (subL_length _ _ _) wL (subL_words wL _) hle).mono ?_
 rintro e w4 ⟨rfl,m4,hx4⟩
 have m14:Mod [px] w w4:=Mod.trans (U:=[px]) m13 m4 (by simp) (by simp)
 go_wp2_with fail
 go_end0
 exact⟨_,rfl,m14,hx4,hres.out⟩
set_option maxRecDepth 100000 in
theorem c_Add'(x px z pz m y q k:Nat)(odd:Bool)(r:Value)(L R V S M Q:List Nat)(w:World)(hx:NatIs w x px L R)(hz:NatIs w z pz V S)(hm:MHead w m y odd k r)(hy:NatIs w y q M Q)
 (bL:Below' L M) (bV:Below' V M) (wM:Words M) (hq:q≠px) :
 Calls Tryz.prog 94 #[ptr x,ptr z,ptr m] w fun e w'=>
  ∃L',e=.returned (ptr x)∧Mod [px] w w'∧NatIs w' x px L' R∧Below' L' M∧val L'=(val L+val V)%val M:=by
 have hlen:V.length=L.length:=bV.len.trans bL.len.symm
 have hsum:=add_whole hlen
 have hb1:=bL.lt
 have hb2:=bV.lt
 have hlen2:=addL_length L V L.length
 have hcl:=addC_le bL.words bV.words L.length
 have hbound:val (addL L V L.length)+W^(addL L V L.length).length*addC L V L.length<2*val M:=by rw[hlen2];omega
 have hsum':val (addL L V L.length)+W^(addL L V L.length).length*addC L V L.length=val L+val V:=by rw[hlen2];exact hsum
 have H:=hide hsum'
 have HB:=hide hbound
 have HL:=hide (show M.length=(addL L V L.length).length by rw[hlen2];exact bL.len.symm)
 have hmp:m≠px:=Blk.ne hm hx.row (by decide)
 have hyp:y≠px:=hy.head.ne hx.row (by decide)
 clear hsum hbound hsum'
 go_enter Tryz.func94,Tryz.ntmps94
 go_wp2_with fail
 refine(c_add x z px pz L R V S _ hx hz hlen bL.words bV.words).mono ?_
 rintro e w1 ⟨rfl,m1,hx1⟩
 have hm1:MHead w1 m y odd k r:=Blk.mod hm m1 (by simpa using hmp)
 have hy1:=hy.mod m1 (by simpa using hyp) (by simpa using hq)
 go_wp2_with fail
 refine(c_maybeSub x px m y q k _ odd r _ R M Q _ hx1 hm1 hy1 (addL_words bL.words _) wM HL.out hcl HB.out).mono ?_
 rintro e w2 ⟨L',rfl,m2,hx2,hbe,hv⟩
 rw[H.out]at hv
 have HV:=hide hv
 have m12:Mod [px] w w2:=Mod.trans (U:=[px]) m1 m2 (by simp) (by simp)
 clear hv
 go_wp2_with fail
 go_ret
 exact⟨L',rfl,m12,hx2,hbe,HV.out⟩
def mT(Z A B M:List Nat)(k n:Nat):Nat→List Nat×Nat
 |0=>(Z,0)
 |i+1=>
  let T:=(mT Z A B M k n i).1
  let T1:=mulL T A i 0 (nth B i) n
  let c1:=mulC T A i 0 (nth B i) n
  let Y:=nth T1 i*k%W
  ((mulL T1 M i 0 Y n).set (n+i) (addLo c1 (mulC T1 M i 0 Y n) (mT Z A B M k n i).2),addHi c1 (mulC T1 M i 0 Y n) (mT Z A B M k n i).2)
def mRow(Z A B M:List Nat)(k n i:Nat):List Nat:=(mT Z A B M k n i).1
def mCar(Z A B M:List Nat)(k n i:Nat):Nat:=(mT Z A B M k n i).2
def mRow1(Z A B M:List Nat)(k n i:Nat):List Nat:=mulL (mRow Z A B M k n i) A i 0 (nth B i) n
def mCar1(Z A B M:List Nat)(k n i:Nat):Nat:=mulC (mRow Z A B M k n i) A i 0 (nth B i) n
def mY(Z A B M:List Nat)(k n i:Nat):Nat:=nth (mRow1 Z A B M k n i) i*k%W
def mRow2(Z A B M:List Nat)(k n i:Nat):List Nat:=mulL (mRow1 Z A B M k n i) M i 0 (mY Z A B M k n i) n
def mCar2(Z A B M:List Nat)(k n i:Nat):Nat:=mulC (mRow1 Z A B M k n i) M i 0 (mY Z A B M k n i) n
theorem mRow_zero(Z A B M:List Nat)(k n:Nat):mRow Z A B M k n 0=Z:=rfl
theorem mCar_zero(Z A B M:List Nat)(k n:Nat):mCar Z A B M k n 0=0:=rfl
theorem mRow_succ(Z A B M:List Nat)(k n i:Nat):mRow Z A B M k n (i+1)=(mRow2 Z A B M k n i).set (n+i) (addLo (mCar1 Z A B M k n i) (mCar2 Z A B M k n i) (mCar Z A B M k n i)):=rfl
theorem mCar_succ(Z A B M:List Nat)(k n i:Nat):mCar Z A B M k n (i+1)=addHi (mCar1 Z A B M k n i) (mCar2 Z A B M k n i) (mCar Z A B M k n i):=rfl
section
variable {Z A B M:List Nat} {k n:Nat}
theorem mRow_length(i:Nat):(mRow Z A B M k n i).length=Z.length:=by
 induction i with
 |zero=>rfl
 |succ i ih=>rw[mRow_succ];simp only[List.length_set,mRow2,mRow1,mulL_length];exact ih
theorem mRow1_length(i:Nat):(mRow1 Z A B M k n i).length=Z.length:=by rw[mRow1,mulL_length,mRow_length]
theorem mRow2_length(i:Nat):(mRow2 Z A B M k n i).length=Z.length:=by rw[mRow2,mulL_length,mRow1_length]
theorem mRow_words(hZ:Words Z)(i:Nat):Words (mRow Z A B M k n i):=by
 induction i with
 |zero=>exact hZ
 |succ i ih=>rw[mRow_succ];exact(mulL_words (mulL_words ih _ _ _ _ _) _ _ _ _ _).set _ (addLo_lt _ _ _)
theorem mRow1_words(hZ:Words Z)(i:Nat):Words (mRow1 Z A B M k n i):=mulL_words (mRow_words hZ i) _ _ _ _ _
theorem mRow2_words(hZ:Words Z)(i:Nat):Words (mRow2 Z A B M k n i):=mulL_words (mRow1_words hZ i) _ _ _ _ _
theorem mY_lt(i:Nat):mY Z A B M k n i<W:=Nat.mod_lt _ W_pos
theorem mCar_le(i:Nat):mCar Z A B M k n i≤1:=by
 induction i with
 |zero=>rw[mCar_zero];omega
 |succ i ih=>rw[mCar_succ];exact addHi_le (mulC_lt _ _ _ _ _ _) (mulC_lt _ _ _ _ _ _) ih
theorem seg_succ_front(T:List Nat)(o:Nat):∀n,seg T o (n+1)=nth T o+W*seg T (o+1) n:=by
 intro n
 induction n with
 |zero=>simp[seg]
 |succ n ih=>
  rw[seg,ih]
  simp only[seg]
  rw[Nat.pow_succ,Nat.mul_add,show o+(n+1)=o+1+n by omega,Nat.mul_comm (W^n) W,Nat.mul_assoc,Nat.add_assoc]
def mU(Z A B M:List Nat)(k n i:Nat):Nat:=seg (mRow Z A B M k n i) i n+W^n*mCar Z A B M k n i
theorem low_zero{t y m k:Nat}(hk:(k*m)%W=W-1)(hy:y=t*k%W):(t+y*m)%W=0:=by
 have h1:(t+y*m)%W=(t*(1+k*m))%W:=by
  rw[hy,Nat.add_mod,Nat.mod_mul_mod,Nat.mul_add,Nat.mul_one,Nat.mul_assoc,←Nat.add_mod]
 have hW:=W_pos
 have h2:(1+k*m)%W=0:=by
  rw[Nat.add_mod,hk]
  have:1%W=1:=Nat.mod_eq_of_lt (by rw[W_eq];omega)
  rw[this,show 1+(W-1)=W by omega,Nat.mod_self]
 rw[h1,Nat.mul_mod,h2,Nat.mul_zero,Nat.zero_mod]
theorem mU_step(hZ:Words Z)(hA:Words A)(hB:Words B)(hM:Words M)(hn:0<n)(hal:A.length=n)(hml:M.length=n)(hk:(k*nth M 0)%W=W-1){i:Nat}(hi:i<n)(hz:2*n≤Z.length) :
 W*mU Z A B M k n (i+1)=mU Z A B M k n i+nth B i*val A+mY Z A B M k n i*val M:=by
 have sA:seg A 0 n=val A:=by rw[seg_whole _ _ (by omega),←hal,List.take_length]
 have sM:seg M 0 n=val M:=by rw[seg_whole _ _ (by omega),←hml,List.take_length]
 have e1:seg (mRow1 Z A B M k n i) i n+W^n*mCar1 Z A B M k n i=seg (mRow Z A B M k n i) i n+nth B i*val A:=by
  have:=mulL_seg (mRow_words hZ i (A:=A) (B:=B) (M:=M) (k:=k) (n:=n)) hA (oz:=i) (ox:=0) (hB.nth i) n (by rw[mRow_length];omega)
  rw[sA]at this
  exact this
 have e2:seg (mRow2 Z A B M k n i) i n+W^n*mCar2 Z A B M k n i=seg (mRow1 Z A B M k n i) i n+mY Z A B M k n i*val M:=by
  have:=mulL_seg (mRow1_words hZ i (A:=A) (B:=B) (M:=M) (k:=k) (n:=n)) hM (oz:=i) (ox:=0) (mY_lt (Z:=Z) (A:=A) (B:=B) (M:=M) (k:=k) (n:=n) i) n (by rw[mRow1_length];omega)
  rw[sM]at this
  exact this
 obtain⟨n',rfl⟩:∃n',n=n'+1:=⟨n-1,by omega⟩
 have hlow:nth (mRow2 Z A B M k (n'+1) i) i=0:=by
  have f2:=seg_succ_front (mRow2 Z A B M k (n'+1) i) i n'
  have f1:=seg_succ_front (mRow1 Z A B M k (n'+1) i) i n'
  have fm:val M=nth M 0+W*seg M 1 n':=by rw[←sM,seg_succ_front]
  have hz0:=low_zero (t:=nth (mRow1 Z A B M k (n'+1) i) i) hk (y:=mY Z A B M k (n'+1) i) rfl
  have hw:=(mRow2_words hZ i (A:=A) (B:=B) (M:=M) (k:=k) (n:=n'+1)).nth i
  have hmod:nth (mRow2 Z A B M k (n'+1) i) i%W=(nth (mRow1 Z A B M k (n'+1) i) i+mY Z A B M k (n'+1) i*nth M 0)%W:=by
   have h3:=congrArg (fun t=>t%W) e2
   rw[f2,f1,fm,Nat.pow_succ,Nat.mul_add]at h3
   rw[show W^n'*W*mCar2 Z A B M k (n'+1) i=W*(W^n'*mCar2 Z A B M k (n'+1) i)by rw[Nat.mul_comm (W^n') W,Nat.mul_assoc]]at h3
   rw[show mY Z A B M k (n'+1) i*(W*seg M 1 n')=W*(mY Z A B M k (n'+1) i*seg M 1 n')by rw[Nat.mul_left_comm]]at h3
   rw[Nat.add_mul_mod_self_left,Nat.add_mul_mod_self_left]at h3
   rw[h3]
   rw[show ∀a b c d:Nat,a+W*b+(c+W*d)=a+c+W*(b+d)from fun a b c d=>by rw[Nat.mul_add];omega]
   rw[Nat.add_mul_mod_self_left]
  rw[Nat.mod_eq_of_lt hw,hz0]at hmod
  exact hmod
 have f2:=seg_succ_front (mRow2 Z A B M k (n'+1) i) i n'
 rw[hlow,Nat.zero_add]at f2
 have f3:seg (mRow Z A B M k (n'+1) (i+1)) (i+1) (n'+1)=seg (mRow2 Z A B M k (n'+1) i) (i+1) n'+W^n'*addLo (mCar1 Z A B M k (n'+1) i) (mCar2 Z A B M k (n'+1) i) (mCar Z A B M k (n'+1) i):=by
  rw[seg,mRow_succ]
  have c:seg ((mRow2 Z A B M k (n'+1) i).set (n'+1+i) (addLo (mCar1 Z A B M k (n'+1) i) (mCar2 Z A B M k (n'+1) i) (mCar Z A B M k (n'+1) i))) (i+1) n'=seg (mRow2 Z A B M k (n'+1) i) (i+1) n':=
   seg_congr n' fun j hj=>nth_set_ne (by omega)
  rw[c,show i+1+n'=n'+1+i by omega,nth_set_same (by rw[mRow2_length];omega)]
 have hadd:=add_eq (mCar1 Z A B M k (n'+1) i) (mCar2 Z A B M k (n'+1) i) (mCar Z A B M k (n'+1) i)
 unfold mU
 rw[f3,mCar_succ]
 rw[f2]at e2
 generalize addLo (mCar1 Z A B M k (n'+1) i) (mCar2 Z A B M k (n'+1) i) (mCar Z A B M k (n'+1) i)=lo at *
 generalize addHi (mCar1 Z A B M k (n'+1) i) (mCar2 Z A B M k (n'+1) i) (mCar Z A B M k (n'+1) i)=hi at *
 have g1:W*(seg (mRow2 Z A B M k (n'+1) i) (i+1) n'+W^n'*lo+W^(n'+1)*hi)=W*seg (mRow2 Z A B M k (n'+1) i) (i+1) n'+W^(n'+1)*(lo+W*hi):=by
  rw[Nat.mul_add,Nat.mul_add,Nat.mul_add,Nat.pow_succ,Nat.add_assoc]
  congr 2
  ·rw[Nat.mul_comm (W^n') W,Nat.mul_assoc]
  ·rw[Nat.mul_left_comm]
 rw[g1,hadd,Nat.mul_add,Nat.mul_add]
 omega
theorem mU_lt(hZ:Words Z)(hA:Words A)(hB:Words B)(hM:Words M)(hn:0<n)(hal:A.length=n)(hml:M.length=n)(hk:(k*nth M 0)%W=W-1)(hz:2*n≤Z.length)(hz0:val (Z.take n)=0)(hMp:0<val M) :
 ∀i,i≤n→mU Z A B M k n i<val A+val M:=by
 intro i
 induction i with
 |zero=>
  intro _
  unfold mU
  rw[mRow_zero,mCar_zero,seg_whole _ _ (by omega),hz0]
  omega
 |succ i ih=>
  intro hi
  have h:=ih (by omega)
  have e:=mU_step hZ hA hB hM hn hal hml hk (i:=i) (by omega) hz
  have b1:=hB.nth i
  have b2:=mY_lt (Z:=Z) (A:=A) (B:=B) (M:=M) (k:=k) (n:=n) i
  have c1:nth B i*val A≤(W-1)*val A:=Nat.mul_le_mul_right _ (by omega)
  have c2:mY Z A B M k n i*val M≤(W-1)*val M:=Nat.mul_le_mul_right _ (by omega)
  have hW:=W_pos
  have d1:(W-1)*val A+val A=W*val A:=by rw[←Nat.succ_mul];congr 1
  have d2:(W-1)*val M+val M=W*val M:=by rw[←Nat.succ_mul];congr 1
  have:W*mU Z A B M k n (i+1)<W*(val A+val M):=by rw[e,Nat.mul_add];omega
  exact Nat.lt_of_mul_lt_mul_left this
theorem mU_mod(hZ:Words Z)(hA:Words A)(hB:Words B)(hM:Words M)(hn:0<n)(hal:A.length=n)(hml:M.length=n)(hk:(k*nth M 0)%W=W-1)(hz:2*n≤Z.length)(hz0:val (Z.take n)=0) :
 ∀i,i≤n→(W^i*mU Z A B M k n i)%val M=(val A*seg B 0 i)%val M:=by
 intro i
 induction i with
 |zero=>
  intro _
  unfold mU
  rw[mRow_zero,mCar_zero,seg_whole _ _ (by omega),hz0]
  simp[seg]
 |succ i ih=>
  intro hi
  have e:=mU_step hZ hA hB hM hn hal hml hk (i:=i) (by omega) hz
  have g:W^(i+1)*mU Z A B M k n (i+1)=W^i*mU Z A B M k n i+val A*(W^i*nth B i)+val M*(W^i*mY Z A B M k n i):=by
   rw[Nat.pow_succ,Nat.mul_assoc,e,Nat.mul_add,Nat.mul_add]
   ac_rfl
  rw[g,Nat.add_mul_mod_self_left,seg,Nat.zero_add,Nat.mul_add,Nat.add_mod,ih (by omega),←Nat.add_mod]
theorem mont_eq(hZ:Words Z)(hA:Words A)(hB:Words B)(hM:Words M)(hn:0<n)(hal:A.length=n)(hbl:B.length=n)(hml:M.length=n)(hk:(k*nth M 0)%W=W-1)(hz:2*n≤Z.length)(hz0:val (Z.take n)=0)
 {r:Nat} (hr:r=mU Z A B M k n n%val M):(r*W^n)%val M=(val A*val B)%val M:=by
 have h:=mU_mod hZ hA hB hM hn hal hml hk hz hz0 n (Nat.le_refl _)
 rw[seg_whole _ _ (by omega),←hbl,List.take_length,hbl]at h
 rw[hr,Nat.mod_mul_mod,Nat.mul_comm,h]
end
theorem mulC_congr{Z X X':List Nat}{oz y:Nat}:∀i,(∀j,j<i→nth X j=nth X' j)→mulC Z X oz 0 y i=mulC Z X' oz 0 y i:=by
 intro i
 induction i with
 |zero=>intro _;rfl
 |succ i ih=>intro h;simp only[mulC];rw[ih (fun j hj=>h j (by omega)),Nat.zero_add,h i (by omega)]
theorem mulL_congr{Z X X':List Nat}{oz y:Nat}:∀i,(∀j,j<i→nth X j=nth X' j)→mulL Z X oz 0 y i=mulL Z X' oz 0 y i:=by
 intro i
 induction i with
 |zero=>intro _;rfl
 |succ i ih=>intro h;simp only[mulL];rw[ih (fun j hj=>h j (by omega)),mulC_congr i (fun j hj=>h j (by omega)),Nat.zero_add,h i (by omega)]
theorem words_left{L R:List Nat}(h:Words L)(i:Nat)(hi:i<L.length):nth (L++R) i<W:=by
 rw[nth_append_left hi];exact h.nth i
theorem c_addMul(bz oz cz x bx cx y:Nat)(Z X R:List Nat)(w:World)(hz:Blk w bz 51 (Z.map u64))(hx:NatIs w x bx X R)(hne:bx≠bz)(hn:0<X.length)
 (hoz:oz+X.length≤Z.length) (wZ:Words Z) (wX:Words X) (hy:y<W) (hbig:Z.length≤100000) :
 Calls Tryz.prog 126 #[sl bz oz X.length cz,sl bx 0 X.length cx,u64 y] w fun e w'=>
  e=.returned (u64 (mulC Z X oz 0 y X.length))∧Mod [bz] w w'∧Blk w' bz 51 ((mulL Z X oz 0 y X.length).map u64):=by
 have h0:∀j,j<X.length→nth (X++R) j=nth X j:=fun j hj=>nth_append_left hj
 have:=c_addMulVVW bz oz X.length cz bx 0 X.length cx y Z (X++R) w hz hx.row hne hn (Nat.le_refl _) hoz (by simp) wZ (fun j hj=>by rw[Nat.zero_add];exact words_left wX j hj) hy (by omega)
 rw[mulC_congr X.length h0,mulL_congr X.length h0]at this
 exact this
theorem copy_nat_off{w:World}{x p q o:Nat}{L R V M:List Nat}(h:NatIs w x p L R)(hq:Blk w q 51 (V.map u64))(hl:M.length=L.length)(ho:o+M.length≤V.length)
 (hM:∀j,j<M.length→nth V (o+j)=nth M j) (c c' sn:Nat) (hsn:M.length≤sn) (ts:Nat) :
 ∃w1,(∀ty,(Builtin.copy_ #[50,ts] ty #[sl p 0 L.length c,sl q o sn c']).run Tryz.prog w=.ok (goInt M.length) w1)∧Mod [p] w w1∧NatIs w1 x p M R:=by
 have hsrc:∀j v,(M.map u64)[j]? = some v→w.cell? ((⟨q,o,none⟩:Addr).add j)=some v:=by
  intro j v hj
  rw[add_addr]
  have hjl:j<M.length:=by simpa using(List.getElem?_eq_some_iff.1 hj).1
  rw[map_get hjl]at hj
  rw[hq.at (o+j) (by omega),hM j hjl]
  exact hj
 have hrun:=fun ty=>run_copy_cells (P:=Tryz.prog) (ty:=ty) (t':=ts) Tryz.underlying50 size_uint h.row 0 L.length c ⟨q,o,none⟩ sn c' (us:=M.map u64)
  (by rw[List.length_map,←hl];exact(Nat.min_eq_right hsn).symm) hsrc (by simp;omega) (oneCell_map u64 (fun _=>rfl) M)
 simp only[List.length_map]at hrun
 have hs:splice' ((L++R).map u64) (M.map u64) 0=(M++R).map u64:=by rw[splice_map,take_copy L R M hl]
 rw[hs]at hrun
 exact⟨_,hrun,(Mod.refl _ w).setRow _ _ (by simp),h.put hl (Go.setRow_other _ _ _ _ h.ne) (h.row.setRow _)⟩
def piece(V:List Nat)(o n:Nat):List Nat:=(V.drop o).take n
theorem piece_length{V:List Nat}{o n:Nat}(h:o+n≤V.length):(piece V o n).length=n:=by simp[piece];omega
theorem piece_nth{V:List Nat}{o n j:Nat}(hj:j<n):nth (piece V o n) j=nth V (o+j):=by
 simp[piece,nth,hj]
theorem piece_words{V:List Nat}(h:Words V)(o n:Nat):Words (piece V o n):=(h.drop o).take n
theorem piece_val{V:List Nat}{o n:Nat}(h:o+n≤V.length):val (piece V o n)=seg V o n:=by
 have e:seg V o n=seg (piece V o n) 0 n:=seg_congr n fun j hj=>by rw[Nat.zero_add,piece_nth hj]
 rw[e,seg_whole _ _ (by rw[piece_length h];omega),List.take_of_length_le (by rw[piece_length h];omega)]
structure MontIs(X A B M:List Nat):Prop where
 below:Below' X M
 eq:(val X*W^M.length)%val M=(val A*val B)%val M
def zrow(c:Nat):List Nat:=List.replicate c 0
theorem zrow_length(c:Nat):(zrow c).length=c:=by simp[zrow]
theorem zrow_words(c:Nat):Words (zrow c):=Words.replicate0 c
theorem zrow_take(c n:Nat):val ((zrow c).take n)=0:=by simp[zrow,val_replicate0]
theorem mont_done{c k:Nat}{A B M X:List Nat}(hA:Words A)(hB:Words B)(hM:Words M)(hn:0<M.length)(hal:A.length=M.length)(hbl:B.length=M.length)
 (hk:(k*nth M 0)%W=W-1) (hc:2*M.length≤c) (hX:Below' X M) (hv:val X=(val (piece (mRow (zrow c) A B M k M.length M.length) M.length M.length)+W^M.length*mCar (zrow c) A B M k M.length M.length)%val M) :
 MontIs X A B M:=by
 refine⟨hX,?_⟩
 refine mont_eq (Z:=zrow c) (k:=k) (zrow_words c) hA hB hM hn hal hbl rfl hk (by rw[zrow_length];exact hc) (zrow_take c _) ?_
 rw[hv,piece_val (by rw[mRow_length,zrow_length];omega)]
 rfl
theorem mont_bound{c k:Nat}{A B M:List Nat}(hA:Words A)(hB:Words B)(hM:Words M)(hn:0<M.length)(hal:A.length=M.length)
 (hk:(k*nth M 0)%W=W-1) (hc:2*M.length≤c) (hlt:val A<val M) :
 val (piece (mRow (zrow c) A B M k M.length M.length) M.length M.length)+W^M.length*mCar (zrow c) A B M k M.length M.length<2*val M:=by
 have:=mU_lt (Z:=zrow c) (k:=k) (B:=B) (zrow_words c) hA hB hM hn hal rfl hk (by rw[zrow_length];exact hc) (zrow_take c _) (by omega) M.length (Nat.le_refl _)
 rw[piece_val (by rw[mRow_length,zrow_length];omega)]
 unfold mU at this
 omega
theorem mul_word(a b:Nat):IntKind.u64.wrap ((a:Int)*(b:Int))=((a*b%W:Nat):Int):=by
 rw[←Int.natCast_mul,wrapW]
section
variable {Z A B M Ra Q:List Nat} {k n j:Nat}
theorem c_mul1(bT a pa cz cx:Nat)(w:World)(hT:Blk w bT 51 ((mRow Z A B M k n j).map u64))(ha:NatIs w a pa A Ra)(hne:pa≠bT)(hal:A.length=n)(hn:0<n)
 (hoz:j+n≤Z.length) (wZ:Words Z) (wA:Words A) (wB:Words B) (hbig:Z.length≤100000) :
 Calls Tryz.prog 126 #[sl bT j n cz,sl pa 0 n cx,u64 (nth B j)] w fun e w'=>
  e=.returned (u64 (mCar1 Z A B M k n j))∧Mod [bT] w w'∧Blk w' bT 51 ((mRow1 Z A B M k n j).map u64):=by
 subst hal
 exact c_addMul bT j cz a pa cx (nth B j) (mRow Z A B M k A.length j) A Ra w hT ha hne hn (by rw[mRow_length];exact hoz) (mRow_words wZ j) wA (wB.nth j) (by rw[mRow_length];exact hbig)
theorem c_mul2(bT y q cz cx:Nat)(w:World)(hT:Blk w bT 51 ((mRow1 Z A B M k n j).map u64))(hy:NatIs w y q M Q)(hne:q≠bT)(hml:M.length=n)(hn:0<n)
 (hoz:j+n≤Z.length) (wZ:Words Z) (wM:Words M) (hbig:Z.length≤100000) :
 Calls Tryz.prog 126 #[sl bT j n cz,sl q 0 n cx,u64 (mY Z A B M k n j)] w fun e w'=>
  e=.returned (u64 (mCar2 Z A B M k n j))∧Mod [bT] w w'∧Blk w' bT 51 ((mRow2 Z A B M k n j).map u64):=by
 subst hml
 exact c_addMul bT j cz y q cx (mY Z A B M k M.length j) (mRow1 Z A B M k M.length j) M Q w hT hy hne hn (by rw[mRow1_length];exact hoz) (mRow1_words wZ j) wM (mY_lt j) (by rw[mRow1_length];exact hbig)
theorem mY_word:IntKind.u64.wrap ((nth (mRow1 Z A B M k n j) j:Int)*(k:Int))=((mY Z A B M k n j:Nat):Int):=mul_word _ _
theorem row_next{w:World}{bT:Nat}(h:Blk w bT 51 ((mRow2 Z A B M k n j).map u64)) :
 Blk (w.setCell ⟨bT,n+j,none⟩ (u64 (addLo (mCar1 Z A B M k n j) (mCar2 Z A B M k n j) (mCar Z A B M k n j)))) bT 51 ((mRow Z A B M k n (j+1)).map u64):=h.set _ _
end
end Go.Proofs.YtfgmnbmnpihjdaaGreatDoor
