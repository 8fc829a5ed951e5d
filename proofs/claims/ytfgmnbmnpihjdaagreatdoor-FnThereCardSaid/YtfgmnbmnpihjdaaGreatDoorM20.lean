/- Lemmas of mine for the walk and its plain laws: SpecH SpecI SpecJ SpecK SpecL SpecM -/
import Derived.Test.YtfgmnbmnpihjdaaGreatDoorM19
set_option linter.all false
set_option maxHeartbeats 2000000
namespace Go.Proofs.YtfgmnbmnpihjdaaGreatDoor
open Go.RowKit
structure SubAt(A B D:List Nat)(i c:Nat):Prop where
 len:D.length=i
 digits:Digits D
 borrow:c≤1
 val:valS D+valS (B.take i)=valS (A.take i)+65536^i*c
theorem SubAt.next{A B D:List Nat}{i c u d:Nat}(h:SubAt A B D i c)(hu:u<65536)(hd:d≤1)(he:u+nth B i+c=nth A i+65536*d):SubAt A B (D++[u]) (i+1) d:=by
 refine⟨by simp[h.len],h.digits.push hu,hd,?_⟩
 have h1:=h.val
 rw[valS_push,h.len,valS_take_any,valS_take_any,Nat.pow_succ]
 generalize 65536^i=p at h1 ⊢
 generalize nth B i=y at he ⊢
 generalize nth A i=x at he ⊢
 grind
theorem SubAt.done{A B D:List Nat}{c:Nat}(h:SubAt A B D A.length c)(hl:B.length≤A.length)(hle:valS B≤valS A):valS D=valS A-valS B:=by
 have h1:=h.val
 rw[List.take_of_length_le hl,List.take_of_length_le (Nat.le_refl _)]at h1
 have h2:=valS_lt h.digits
 rw[h.len]at h2
 have h3:=h.borrow
 rcases Nat.eq_zero_or_pos c with h0|h0
 ·subst h0;omega
 ·obtain rfl:c=1:=by omega
  omega
theorem Canon.length_le{A B:List Nat}(hA:Digits A)(hB:Canon B)(h:valS B≤valS A):B.length≤A.length:=by
 rcases Nat.lt_or_ge A.length B.length with hlt|hge
 ·have:=valS_shorter hA hB hlt;omega
 ·exact hge
set_option maxRecDepth 100000 in
theorem c_sSub(va vb:Value)(A B:List Nat)(w:World)(ha:SliceK i64 w va A)(hb:SliceK i64 w vb B)(dA:Digits A)(cB:Canon B)(hle:valS B≤valS A)(lA:A.length≤100000) :
 Calls Tryz.prog 29 #[va,vb] w fun e w'=>∃v L,e=.returned v∧Mod [] w w'∧SliceK i64 w' v L∧Canon L∧valS L=valS A-valS B∧L.length≤A.length:=by
 have dB:=cB.digits
 have lB:=Canon.length_le dA cB hle
 obtain⟨aa,ca,rfl⟩:=ha.lit
 obtain⟨ab,cb,rfl⟩:=hb.lit
 have HLE:=hide hle
 have HLB:=hide lB
 have hown0:Own i64 3 (w.alloc (.cells #[] 3)) w.heap.size (sl w.heap.size 0 0 0) []:=Own.ofBlk (rest:=[]) (Nat.le_refl _) (Blk.new w _ []) rfl (by simp[maxLen])
 clear hle
 go_enter Tryz.func29,Tryz.ntmps29
 go_wp2_with fail
 go_loopw [5,6,12] (fun v c i wr=>∃(c' i':Nat) (D:List Nat) (vv:Value),vv=v∧c=i64 c'∧i=i64 i'∧i'≤A.length∧Mod [] w wr∧Own i64 3 wr w.heap.size vv D∧Hid (SubAt A B D i' c')) (fun _ _ i _=>A.length-(intOf i).toNat)
 case atStart=>exact⟨0,0,[],_,rfl,rfl,rfl,by omega,(Mod.refl _ _).alloc _,hown0,hide ⟨rfl,fun i=>by rw[nth_ge (by simp)];omega,by omega,by simp[valS]⟩⟩
 case round=>
  obtain⟨c,i,D,vv,rfl,rfl,rfl,hi,hm,hv,hS⟩:=hrel
  have hcc:=hS.out.borrow
  have hxa:=dA i
  have hxb:=dB i
  have hlen:D.length<900000:=by have:=hS.out.len;omega
  by_cases h1:i<A.length
  ·obtain⟨b1',o1,rfl,_,hcA⟩:=(ha.mod hm (by simp)).at (by omega)
   have hr1:=hcA i h1
   obtain⟨x,hx⟩:∃x,x=nth A i:=⟨_,rfl⟩
   obtain⟨y,hy⟩:∃y,y=nth B i:=⟨_,rfl⟩
   obtain⟨z1,hz1⟩:∃z1:Int,z1=(x:Int)-(c:Int):=⟨_,rfl⟩
   obtain⟨z,hz⟩:∃z:Int,z=z1-(y:Int):=⟨_,rfl⟩
   rw[←hx]at hr1 hxa
   rw[←hy]at hxb
   have e1:(x:Int)-(c:Int)=z1:=hz1.symm
   have e2:z1-(y:Int)=z:=hz.symm
   have hnext:∀u d,u<65536→d≤1→u+y+c=x+65536*d→Hid (SubAt A B (D++[u]) (i+1) d):=fun u d hu hd he=>hide (hS.out.next hu hd (by rw[←hx,←hy];exact he))
   have hlo : -65536≤z:=by omega
   have hhi:z≤65535:=by omega
   have hlo1 : -1≤z1:=by omega
   have hhi1:z1≤65535:=by omega
   have hpush:∀u:Nat,Mod [] w (wr.alloc (.cells #[.int .i64 (u:Int)] 3))∧Own i64 3 (wr.alloc (.cells #[.int .i64 (u:Int)] 3)) w.heap.size vv D∧(wr.alloc (.cells #[.int .i64 (u:Int)] 3)).cell? ⟨wr.heap.size,0,none⟩=some (i64 u):=
    fun u=>⟨hm.alloc _,hv.mod ((Mod.refl [] _).alloc _) (by simp),blk_cell0 (Blk.new wr 3 [i64 u])⟩
   by_cases h2:i<B.length
   ·obtain⟨b2',o2,rfl,_,hcB⟩:=(hb.mod hm (by simp)).at (by omega)
    have hr2:=hcB i h2
    rw[←hy]at hr2
    clear hcA hcB
    by_cases hneg:z<0
    ·obtain⟨u,hu⟩:∃u:Nat,(u:Int)=z+65536:=⟨(z+65536).toNat,by omega⟩
     have e3:z+65536=(u:Int):=hu.symm
     have hS2:=hnext u 1 (by omega) (by omega) (by omega)
     obtain⟨hma,hva,hca⟩:=hpush u
     clear hnext hpush hu hz hz1 hx hy hS
     go_wp2_with (at_builtin;refine wpl_push rfl _ _ _ rfl vv wr.heap.size 1 rfl rfl i64 rfl Tryz.underlying25 info_int (by omega) (fun _=>rfl) hma hva hca hlen ?_)
     intro v' w' hv' hm'
     go_wp2_with fail
     go_roundw
     case rel=>exact⟨1,i+1,_,v',rfl,rfl,by go_num,by omega,hm',hv',hS2⟩
     case measure=>simp[intOf];omega
    ·obtain⟨u,hu⟩:∃u:Nat,(u:Int)=z:=⟨z.toNat,by omega⟩
     have hS2:=hnext u 0 (by omega) (by omega) (by omega)
     obtain⟨hma,hva,hca⟩:=hpush u
     rw[hu]at hma hva hca
     clear hnext hpush hz hz1 hx hy hS hu
     go_wp2_with (at_builtin;refine wpl_push rfl _ _ _ rfl vv wr.heap.size 1 rfl rfl i64 rfl Tryz.underlying25 info_int (by omega) (fun _=>rfl) hma hva hca hlen ?_)
     intro v' w' hv' hm'
     go_wp2_with fail
     go_roundw
     case rel=>exact⟨0,i+1,_,v',rfl,rfl,by go_num,by omega,hm',hv',hS2⟩
     case measure=>simp[intOf];omega
   ·have hy0:y=0:=by rw[hy,nth_ge (by omega)]
    obtain rfl:z=z1:=by omega
    clear e2 hcA
    by_cases hneg:z<0
    ·obtain⟨u,hu⟩:∃u:Nat,(u:Int)=z+65536:=⟨(z+65536).toNat,by omega⟩
     have e3:z+65536=(u:Int):=hu.symm
     have hS2:=hnext u 1 (by omega) (by omega) (by omega)
     obtain⟨hma,hva,hca⟩:=hpush u
     clear hnext hpush hu hz hz1 hx hy hS
     go_wp2_with (at_builtin;refine wpl_push rfl _ _ _ rfl vv wr.heap.size 1 rfl rfl i64 rfl Tryz.underlying25 info_int (by omega) (fun _=>rfl) hma hva hca hlen ?_)
     intro v' w' hv' hm'
     go_wp2_with fail
     go_roundw
     case rel=>exact⟨1,i+1,_,v',rfl,rfl,by go_num,by omega,hm',hv',hS2⟩
     case measure=>simp[intOf];omega
    ·obtain⟨u,hu⟩:∃u:Nat,(u:Int)=z:=⟨z.toNat,by omega⟩
     have hS2:=hnext u 0 (by omega) (by omega) (by omega)
     obtain⟨hma,hva,hca⟩:=hpush u
     rw[hu]at hma hva hca
     clear hnext hpush hz hz1 hx hy hS hu
     go_wp2_with (at_builtin;refine wpl_push rfl _ _ _ rfl vv wr.heap.size 1 rfl rfl i64 rfl Tryz.underlying25 info_int (by omega) (fun _=>rfl) hma hva hca hlen ?_)
     intro v' w' hv' hm'
     go_wp2_with fail
     go_roundw
     case rel=>exact⟨0,i+1,_,v',rfl,rfl,by go_num,by omega,hm',hv',hS2⟩
     case measure=>simp[intOf];omega
  ·obtain rfl:i=A.length:=by omega
   have hfin:=hide (hS.out.done HLB.out HLE.out)
   have hdD:=hS.out.digits
   have hlD:=hide hS.out.len
   clear hS hcc hxa hxb
   go_wp2_with fail
   refine(c_trimS vv D _ hv.slice hdD (by have:=hlD.out;omega)).mono ?_
   rintro e w2 ⟨v2,L2,rfl,m2,hs2,hc2,hv2,hl2⟩
   have m12:Mod [] w w2:=Mod.trans (U:=[]) hm m2 (by simp) (by simp)
   have HV:=hide (hv2.trans hfin.out)
   have HL:=hide (Nat.le_trans hl2 (Nat.le_of_eq hlD.out))
   clear hv2 hl2
   go_wp2_with fail
   go_ret
   exact⟨v2,L2,rfl,m12,hs2,hc2,HV.out,HL.out⟩
structure MulAt(A B O:List Nat)(i k c:Nat):Prop where
 len:O.length=A.length+B.length
 digits:Digits O
 carry:c<65536
 zero:∀j,i+B.length≤j→nth O j=0
 val:valS O+65536^(i+k)*c=valS (A.take i)*valS B+65536^i*(nth A i*valS (B.take k))
theorem MulAt.start(A B:List Nat):MulAt A B (List.replicate (A.length+B.length) 0) 0 0 0:=
 ⟨by simp,Digits.zeros _,by omega,fun j _=>nth_replicate0 _ _,by simp[valS_replicate0,valS]⟩
theorem mul_lt{x y:Nat}(hx:x<65536)(hy:y<65536):x*y≤4294836225:=by
 have h:x*y≤65535*65535:=Nat.mul_le_mul (by omega) (by omega)
 omega
theorem MulAt.step{A B O:List Nat}{i k c:Nat}(h:MulAt A B O i k c)(hA:Digits A)(hB:Digits B)(hi:i<A.length)(hk:k<B.length) :
 MulAt A B (O.set (i+k) ((c+(nth O (i+k)+nth A i*nth B k))%65536)) i (k+1) ((c+(nth O (i+k)+nth A i*nth B k))/65536):=by
 have hl:=h.len
 have hm:=mul_lt (hA i) (hB k)
 have ho:=h.digits (i+k)
 have hc:=h.carry
 refine⟨by simp[hl],h.digits.set _ (Nat.mod_lt _ (by omega)),by omega,fun j hj=>by rw[nth_set_ne (by omega)];exact h.zero j hj,?_⟩
 have h1:=h.val
 have h2:=valS_set (V:=O) (k:=i+k) (v:=(c+(nth O (i+k)+nth A i*nth B k))%65536) (by omega)
 have h3:c+(nth O (i+k)+nth A i*nth B k)=(c+(nth O (i+k)+nth A i*nth B k))%65536+65536*((c+(nth O (i+k)+nth A i*nth B k))/65536):=by omega
 have hp:(65536:Nat)^(i+(k+1))=65536^i*65536^k*65536:=by rw[Nat.pow_add,Nat.pow_succ,Nat.mul_assoc]
 rw[valS_take_any,hp]
 rw[Nat.pow_add]at h1 h2
 generalize (c+(nth O (i+k)+nth A i*nth B k))%65536=u at h2 h3 ⊢
 generalize (c+(nth O (i+k)+nth A i*nth B k))/65536=d at h3 ⊢
 generalize valS (O.set (i+k) u)=V' at h2 ⊢
 generalize nth O (i+k)=o at h2 h3
 generalize nth A i=x at h1 h3 ⊢
 generalize nth B k=y at h3 ⊢
 generalize valS O=V at h1 h2
 generalize valS (A.take i)=a at h1 ⊢
 generalize valS (B.take k)=b at h1 ⊢
 generalize valS B=b2 at h1 ⊢
 generalize 65536^i=p at h1 h2 ⊢
 generalize 65536^k=q at h1 h2 ⊢
 clear hm ho hc hl
 have h4:p*q*(u+65536*d)=p*q*(c+(o+x*y)):=by rw[h3]
 grind
theorem MulAt.digit{A B O:List Nat}{i c:Nat}(h:MulAt A B O i B.length c)(hi:i<A.length):MulAt A B (O.set (i+B.length) c) (i+1) 0 0:=by
 have hl:=h.len
 have hz:=h.zero (i+B.length) (Nat.le_refl _)
 refine⟨by simp[hl],h.digits.set _ h.carry,by omega,fun j hj=>by rw[nth_set_ne (by omega)];exact h.zero j (by omega),?_⟩
 have h1:=h.val
 have h2:=valS_set (V:=O) (k:=i+B.length) (v:=c) (by omega)
 rw[hz,Nat.mul_zero,Nat.add_zero]at h2
 rw[h2,h1,List.take_length,valS_take_any]
 simp only[List.take_zero,valS,Nat.mul_zero,Nat.add_zero]
 rw[Nat.add_mul,Nat.mul_assoc]
theorem MulAt.done{A B O:List Nat}(h:MulAt A B O A.length 0 0):valS O=valS A*valS B:=by
 have h1:=h.val
 simp only[List.take_zero,valS,Nat.mul_zero,Nat.add_zero]at h1
 rw[h1,List.take_length]
set_option maxRecDepth 100000 in
theorem c_sMul(va vb:Value)(A B:List Nat)(w:World)(ha:SliceK i64 w va A)(hb:SliceK i64 w vb B)(dA:Digits A)(dB:Digits B)(lA:A.length≤100000)(lB:B.length≤100000) :
 Calls Tryz.prog 35 #[va,vb] w fun e w'=>∃v L,e=.returned v∧Mod [] w w'∧SliceK i64 w' v L∧Canon L∧valS L=valS A*valS B∧L.length≤A.length+B.length:=by
 obtain⟨aa,ca,rfl⟩:=ha.lit
 obtain⟨ab,cb,rfl⟩:=hb.lit
 obtain⟨n,hn⟩:∃n,n=A.length+B.length:=⟨_,rfl⟩
 have e0:(A.length:Int)+(B.length:Int)=(n:Int):=by omega
 obtain⟨g,wa,hmk,ma,hg,hba⟩:=made_int n (by omega) w
 rw[hn]at hba
 have hs0:=hide (MulAt.start A B)
 have hn2:n≤200000:=by omega
 have HN:=hide hn
 clear hn
 go_enter Tryz.func35,Tryz.ntmps35
 go_wp2_with fail
 go_loopw [19] (fun i wr=>∃(i':Nat) (O:List Nat),i=i64 i'∧i'≤A.length∧Mod [] w wr∧Blk wr g 3 (O.map i64)∧Hid (MulAt A B O i' 0 0)) (fun i _=>A.length-(intOf i).toNat)
 case atStart=>exact⟨0,_,rfl,by omega,ma,hba,hs0⟩
 case round=>
  obtain⟨i,O,rfl,hi,hm,hO,hS⟩:=hrel
  by_cases h1:i<A.length
  ·obtain⟨b1',o1,rfl,_,hcA⟩:=(ha.mod hm (by simp)).at (by omega)
   have hr1:=hcA i h1
   obtain⟨x,hx⟩:∃x,x=nth A i:=⟨_,rfl⟩
   rw[←hx]at hr1
   have HX:=hide hx
   have hxb:x<65536:=by rw[hx];exact dA i
   clear hcA hx
   go_wp2_with fail
   go_loopw [8,26] (fun c k wr=>∃(c' k':Nat) (O:List Nat),c=i64 c'∧k=i64 k'∧k'≤B.length∧Mod [] w wr∧Blk wr g 3 (O.map i64)∧Hid (MulAt A B O i k' c')) (fun _ k _=>B.length-(intOf k).toNat)
   case atStart=>exact⟨0,0,O,rfl,rfl,by omega,hm,hO,hS⟩
   case round=>
    clear hm hO hS hr1 O
    obtain⟨c,k,O,rfl,rfl,hk,hm,hO,hS⟩:=hrel
    have hcc:=hS.out.carry
    have hOl:=hS.out.len
    rw[←HN.out]at hOl
    have HB2:=hide HN.out
    by_cases h2:k<B.length
    ·obtain⟨b2',o2,rfl,_,hcB⟩:=(hb.mod hm (by simp)).at (by omega)
     have hr2:=hcB k h2
     have hn3:=HN.out
     have hro:=hO.at (i+k) (by omega)
     have hfo:=hO.frozen (i+k)
     obtain⟨y,hy⟩:∃y,y=nth B k:=⟨_,rfl⟩
     obtain⟨ik,hik⟩:∃ik,ik=i+k:=⟨_,rfl⟩
     obtain⟨z,hz⟩:∃z,z=nth O (i+k):=⟨_,rfl⟩
     have hyb:y<65536:=by rw[hy];exact dB k
     have hzb:z<65536:=by rw[hz];exact hS.out.digits _
     have hmx:=mul_lt hxb hyb
     have hS2:=hS.out.step dA dB h1 h2
     rw[←hz,←hy,←HX.out,←hik]at hS2
     rw[←hy]at hr2
     rw[←hz,←hik]at hro
     rw[←hik]at hfo
     obtain⟨m,hmm⟩:∃m,m=x*y:=⟨_,rfl⟩
     obtain⟨s1,hs1⟩:∃s1,s1=z+m:=⟨_,rfl⟩
     obtain⟨s,hs⟩:∃s,s=c+s1:=⟨_,rfl⟩
     rw[←hmm,←hs1,←hs]at hS2
     rw[←hmm]at hmx
     obtain⟨u,hu⟩:∃u,u=s%65536:=⟨_,rfl⟩
     obtain⟨d,hd⟩:∃d,d=s/65536:=⟨_,rfl⟩
     rw[←hu,←hd]at hS2
     have HS2:=hide hS2
     have e1:(i:Int)+(k:Int)=(ik:Int):=by omega
     have e2:(x:Int)*(y:Int)=(m:Int):=by rw[hmm,Int.natCast_mul]
     have e3:(z:Int)+(m:Int)=(s1:Int):=by omega
     have e4:(c:Int)+(s1:Int)=(s:Int):=by omega
     have e5:(s:Int)%65536=(u:Int):=by omega
     have e6:(s:Int)/65536=(d:Int):=by omega
     have b1:s1≤4294967295:=by omega
     have b2:s≤4295032830:=by omega
     have b3:d≤65536:=by omega
     have b4:(ik:Int)<(n:Int):=by omega
     have hO2:Blk (wr.setCell ⟨g,ik,none⟩ (.int .i64 (u:Int))) g 3 ((O.set ik u).map i64):=hO.set ik u
     have hm2:Mod [] w (wr.setCell ⟨g,ik,none⟩ (.int .i64 (u:Int))):=hm.setCell _ _ (by simp;omega)
     have hkb:k≤100000:=by omega
     have hib:i≤100000:=by omega
     clear hS2 hu hd hs hs1 hmm hz hy hik hcB hS hn3 HB2
     go_wp2_with fail
     go_roundw
     case rel=>exact⟨d,k+1,_,rfl,by go_num,by omega,hm2,hO2,HS2⟩
     case measure=>simp[intOf];omega
    ·obtain rfl:k=B.length:=by omega
     have hn3:=HN.out
     obtain⟨il,hil⟩:∃il,il=i+B.length:=⟨_,rfl⟩
     have e1:(i:Int)+(B.length:Int)=(il:Int):=by omega
     have hro:=hO.at il (by omega)
     have hfo:=hO.frozen il
     have hS2:=hS.out.digit h1
     rw[←hil]at hS2
     have HS2:=hide hS2
     have b4:(il:Int)<(n:Int):=by omega
     have hO2:Blk (wr.setCell ⟨g,il,none⟩ (.int .i64 (c:Int))) g 3 ((O.set il c).map i64):=hO.set il c
     have hm2:Mod [] w (wr.setCell ⟨g,il,none⟩ (.int .i64 (c:Int))):=hm.setCell _ _ (by simp;omega)
     have hib:i≤100000:=by omega
     clear hS2 hil hS hn3 HB2
     go_wp2_with fail
     go_roundw
     case rel=>exact⟨i+1,_,by go_num,by omega,hm2,hO2,HS2⟩
     case measure=>simp[intOf];omega
  ·obtain rfl:i=A.length:=by omega
   have hdone:=hide hS.out.done
   have hOd:=hS.out.digits
   have hOl:=hide (hS.out.len.trans HN.out.symm)
   have hsl:SliceK i64 wr (sl g 0 n n) O:=by
    refine .inr ⟨g,0,n,by rw[hOl.out],by rw[hOl.out];omega,fun j hj=>?_⟩
    rw[Nat.zero_add]
    exact hO.at j hj
   clear hS
   go_wp2_with fail
   refine(c_trimS _ O _ hsl hOd (by have:=hOl.out;omega)).mono ?_
   rintro e w2 ⟨v2,L2,rfl,m2,hs2,hc2,hv2,hl2⟩
   have m12:Mod [] w w2:=Mod.trans (U:=[]) hm m2 (by simp) (by simp)
   have HV:=hide (hv2.trans hdone.out)
   have HL:=hide (Nat.le_trans hl2 (Nat.le_of_eq (hOl.out.trans HN.out)))
   clear hv2 hl2
   go_wp2_with fail
   go_ret
   exact⟨v2,L2,rfl,m12,hs2,hc2,HV.out,HL.out⟩
theorem canon_blen{A:List Nat}(h:Canon A)(h0:A.length≠0):blen (valS A)=16*(A.length-1)+blen (nth A (A.length-1)):=by
 have h1:=valS_take_succ (L:=A) (i:=A.length-1) (by omega)
 rw[show A.length-1+1=A.length by omega,List.take_length]at h1
 have h2:=valS_lt (h.digits.take (A.length-1))
 rw[List.length_take,Nat.min_eq_left (by omega)]at h2
 have e:(65536:Nat)^(A.length-1)=2^(16*(A.length-1)):=by rw[Nat.pow_mul]
 rw[e]at h1 h2
 rw[h1,blen_add h2 (h.top h0)]
set_option maxRecDepth 100000 in
theorem c_Len(va:Value)(A:List Nat)(w:World)(ha:SliceK i64 w va A)(cA:Canon A)(lA:A.length≤100000) :
 Calls Tryz.prog 19 #[va] w fun e w'=>e=.returned (i64 (blen (valS A)))∧Mod [] w w':=by
 obtain⟨a,c,rfl⟩:=ha.lit
 by_cases h0:A.length=0
 ·obtain rfl:=List.eq_nil_of_length_eq_zero h0
  clear h0
  go_enter Tryz.func19,Tryz.ntmps19
  go_wp2_with fail
  go_ret
  exact⟨rfl,Mod.refl _ _⟩
 ·obtain⟨b,o,rfl,_,hc⟩:=ha.at (by omega)
  obtain⟨l1,hl1⟩:∃l1,l1=A.length-1:=⟨_,rfl⟩
  have h1:=hc l1 (by omega)
  have hbl:=canon_blen cA h0
  rw[←hl1]at hbl
  obtain⟨t,ht⟩:∃t,t=16*l1:=⟨_,rfl⟩
  have e0:((A.length:Int) == 0)=false:=by simpa using h0
  have e1:(A.length:Int)-1=(l1:Int):=by omega
  have e2:(16:Int)*(l1:Int)=(t:Int):=by omega
  have hll:(l1:Int)<(A.length:Int):=by omega
  have hx:=cA.digits l1
  obtain⟨x,hxx⟩:∃x,x=nth A l1:=⟨_,rfl⟩
  rw[←hxx]at h1 hbl hx
  rw[←ht]at hbl
  have HB:=hide hbl
  have b1:t≤2000000:=by omega
  have hb16:blen x≤16:=blen_le (by simpa using hx)
  have HB16:=hide hb16
  have b2:l1≤100000:=by omega
  clear hbl hxx hc hl1 h0 ht hb16
  go_enter Tryz.func19,Tryz.ntmps19
  go_wp2_with fail
  go_loop [3,4] (fun n m=>∃k j:Nat,n=i64 k∧m=i64 j∧Hid (blen (valS A)=k+blen j)∧k+blen j≤2000016∧j<65536) (fun _ m=>(intOf m).toNat)
  case atStart=>exact⟨t,x,rfl,rfl,HB,by have:=HB16.out;omega,hx⟩
  case round=>
   obtain⟨k,j,rfl,rfl,hk,hk2,hj6⟩:=hrel
   by_cases hj:j=0
   ·subst hj
    have hf:Hid (k=blen (valS A)):=hide (by have:=hk.out;rw[blen_zero]at this;omega)
    clear hk2
    go_wp2_with fail
    go_ret
    exact⟨ret_i64 hf.out,Mod.refl _ _⟩
   ·have hh:=blen_half hj
    have hpos:(0:Int)<(j:Int):=by omega
    have hk3:Hid (blen (valS A)=(k+1)+blen (j/2)∧(k+1)+blen (j/2)≤2000016):=hide (by have:=hk.out;omega)
    have hlt:Hid (j/2<j):=hide (by omega)
    have hkb:k≤2000016:=by omega
    clear hh hk2 hk hj
    go_wp2_with fail
    go_round
    case rel=>exact⟨k+1,j/2,by go_num,by first|rfl|(simp;done)|go_num,hide hk3.out.1,hk3.out.2,by omega⟩
    case measure=>have:=hlt.out;simp[intOf];omega
set_option maxRecDepth 100000 in
theorem c_Length(va:Value)(A:List Nat)(w:World)(ha:SliceK i64 w va A)(cA:Canon A)(lA:A.length≤100000) :
 Calls Tryz.prog 7 #[va] w fun e w'=>e=.returned (i64 ((blen (valS A)+7)/8))∧Mod [] w w':=by
 have hb:blen (valS A)≤1600000:=by
  by_cases h0:A.length=0
  ·obtain rfl:=List.eq_nil_of_length_eq_zero h0
   simp[valS,blen]
  ·have h1:=canon_blen cA h0
   have h2:blen (nth A (A.length-1))≤16:=blen_le (by simpa using cA.digits (A.length-1))
   omega
 obtain⟨bl,hbl⟩:∃bl,bl=blen (valS A):=⟨_,rfl⟩
 have C:=hide (c_Len va A w ha cA lA)
 rw[←hbl]at C hb ⊢
 obtain⟨r,hr⟩:∃r,r=(bl+7)/8:=⟨_,rfl⟩
 rw[←hr]
 have e1:((bl:Int)+7)/8=(r:Int):=by omega
 clear hbl hr
 go_enter Tryz.func7,Tryz.ntmps7
 go_wp2_with fail
 refine C.out.mono ?_
 rintro e w1 ⟨rfl,m1⟩
 go_wp2_with fail
 go_ret
 exact⟨congrArg Ending.returned (congrArg (Value.int .i64) e1),m1⟩
def bitB(n i:Nat):Bool:=decide (n/2^i%2=1)
theorem valS_bit{A:List Nat}(h:Digits A)(i:Nat):valS A/2^i%2=nth A (i/16)/2^(i%16)%2:=by
 rcases Nat.lt_or_ge (i/16) A.length with hq|hq
 ·have h1:=valS_split A (i/16+1) (by omega)
  rw[valS_take_succ hq,Nat.pow_succ]at h1
  have h2:=valS_lt (h.take (i/16))
  rw[List.length_take,Nat.min_eq_left (by omega)]at h2
  have e:(65536:Nat)^(i/16)=2^(16*(i/16)):=by rw[Nat.pow_mul]
  rw[e]at h1 h2
  have hr:i%16<16:=Nat.mod_lt _ (by omega)
  have h3:valS A=valS (A.take (i/16))+2^(16*(i/16))*(nth A (i/16)+65536*valS (A.drop (i/16+1))):=by rw[h1];grind
  have h4:valS A/2^i=(nth A (i/16)+65536*valS (A.drop (i/16+1)))/2^(i%16):=by
   have e2:(2:Nat)^i=2^(16*(i/16))*2^(i%16):=by rw[←Nat.pow_add,Nat.div_add_mod]
   rw[e2,←Nat.div_div_eq_div_mul,h3,Nat.add_mul_div_left _ _ (Nat.pow_pos (by omega)),Nat.div_eq_of_lt h2,Nat.zero_add]
  rw[h4]
  have e3:(65536:Nat)=2^(i%16)*(2*2^(15-i%16)):=by
   rw[←Nat.mul_assoc,Nat.mul_comm (2^(i%16)) 2,Nat.mul_assoc,←Nat.pow_add,show i%16+(15-i%16)=15 by omega]
  rw[show nth A (i/16)+65536*valS (A.drop (i/16+1))=nth A (i/16)+2^(i%16)*(2*(2^(15-i%16)*valS (A.drop (i/16+1))))by
   conv=>lhs;rw[e3]
   grind]
  rw[Nat.add_mul_div_left _ _ (Nat.pow_pos (by omega))]
  omega
 ·rw[nth_ge hq]
  have h2:=valS_lt h
  have h3:65536^A.length≤2^i:=by
   rw[show(65536:Nat)=2^16 by rfl,←Nat.pow_mul]
   exact Nat.pow_le_pow_right (by omega) (by omega)
  rw[Nat.div_eq_of_lt (by omega)]
  simp
set_option maxRecDepth 100000 in
theorem c_Has(va:Value)(A:List Nat)(i:Nat)(w:World)(ha:SliceK i64 w va A)(hd:Digits A)(hi:i≤4000000) :
 Calls Tryz.prog 72 #[va,i64 i] w fun e w'=>e=.returned (.bool (bitB (valS A) i))∧Mod [] w w':=by
 have hbit:=valS_bit hd i
 obtain⟨a,c,rfl⟩:=ha.lit
 obtain⟨q,hq⟩:∃q,q=i/16:=⟨_,rfl⟩
 obtain⟨r,hr⟩:∃r,r=i%16:=⟨_,rfl⟩
 rw[←hq,←hr]at hbit
 have e1:(i:Int)/16=(q:Int):=by omega
 have e2:(i:Int)%16=(r:Int):=by omega
 have b1:r<16:=by omega
 have b2:q≤250000:=by omega
 by_cases hlt:q<A.length
 ·obtain⟨b,o,rfl,_,hc⟩:=ha.at (by omega)
  have h1:=hc q hlt
  have hx:=hd q
  obtain⟨x,hxx⟩:∃x,x=nth A q:=⟨_,rfl⟩
  rw[←hxx]at h1 hbit hx
  obtain⟨y,hy⟩:∃y,y=x/2^r:=⟨_,rfl⟩
  rw[←hy]at hbit
  have e3:(x:Int)/2^r=(y:Int):=by rw[hy,Int.natCast_ediv,Int.natCast_pow];rfl
  have hyx:y≤x:=by rw[hy];exact Nat.div_le_self _ _
  have hand:=and_one_i64 (n:=y) (by omega)
  obtain⟨z,hz⟩:∃z,z=y%2:=⟨_,rfl⟩
  rw[←hz]at hand hbit
  have hz2:z<2:=by omega
  have b3:(q:Int)<(A.length:Int):=by omega
  have e4:(y:Int)%2=(z:Int):=by omega
  have HBIT:Hid (bitB (valS A) i=decide (z=1)):=hide (by unfold bitB;rw[hbit])
  clear hbit hc hxx hy hz hq hr hi
  go_enter Tryz.func72,Tryz.ntmps72
  go_wp2_with fail
  go_ret
  refine⟨?_,Mod.refl _ _⟩
  rw[HBIT.out]
  show Ending.returned (.bool (((z:Nat):Int) == 1))=_
  congr 2
  have:z=0∨z=1:=by omega
  rcases this with h|h
  ·rw[h];rfl
  ·rw[h];rfl
 ·have hbit0:Hid (bitB (valS A) i=false):=hide (by unfold bitB;rw[hbit,nth_ge (by omega)];simp)
  have b3:¬(q:Int)<(A.length:Int):=by omega
  clear hbit hq hr hi
  go_enter Tryz.func72,Tryz.ntmps72
  go_wp2_with fail
  go_ret
  exact⟨by rw[hbit0.out];rfl,Mod.refl _ _⟩
theorem bseg_set{O:List Nat}{e k v:Nat}(he:e≤O.length)(hk:k<e):∀t,k<t→t≤e→bseg (O.set (e-1-k) v) e t+256^k*nth O (e-1-k)=bseg O e t+256^k*v:=by
 have hlow:∀t,t≤k→t≤e→bseg (O.set (e-1-k) v) e t=bseg O e t:=by
  intro t
  induction t with
  |zero=>intro _ _;rfl
  |succ t ih=>intro h1 h2;simp only[bseg];rw[ih (by omega) (by omega),nth_set_ne (by omega)]
 intro t
 induction t with
 |zero=>intro h;omega
 |succ t ih=>
  intro h1 h2
  simp only[bseg]
  rcases Nat.lt_or_ge k t with h|h
  ·have:=ih h (by omega)
   rw[nth_set_ne (by omega)]
   omega
  ·obtain rfl:k=t:=by omega
   rw[hlow k (Nat.le_refl _) (by omega),nth_set_same (by omega)]
   omega
theorem bseg_digit{O:List Nat}(hO:Bytes O){e k t:Nat}(hk:k<t):nth O (e-1-k)=bseg O e t/256^k%256:=by
 obtain⟨s,rfl⟩:∃s,t=k+(1+s):=⟨t-k-1,by omega⟩
 rw[bseg_add,bseg_add,Nat.add_mul_div_left _ _ (Nat.pow_pos (by omega)),Nat.div_eq_of_lt (bseg_lt hO e k),Nat.zero_add,Nat.pow_one,Nat.add_mul_mod_self_left]
 have hb:=hO (e-k-1)
 simp only[bseg,Nat.pow_zero,Nat.one_mul,Nat.zero_add,Nat.sub_zero]
 rw[Nat.mod_eq_of_lt hb,show e-1-k=e-k-1 by omega]
structure BytesAt(V n i:Nat)(O:List Nat):Prop where
 len:O.length=n
 bytes:Bytes O
 val:bval O=V%2^i
theorem bseg_zeros(n e:Nat):∀t,bseg (List.replicate n 0) e t=0
 |0=>rfl
 |t+1=>by simp only[bseg];rw[bseg_zeros n e t,nth_replicate0];simp
theorem BytesAt.start(V n:Nat):BytesAt V n 0 (List.replicate n 0):=
 ⟨by simp,fun i=>by rw[nth_replicate0];omega,by unfold bval;rw[bseg_zeros,Nat.pow_zero,Nat.mod_one]⟩
theorem mod_bit(V i:Nat):V%2^(i+1)=V%2^i+2^i*(V/2^i%2):=by rw[Nat.pow_succ,Nat.mod_mul]
theorem BytesAt.low{V n i:Nat}{O:List Nat}(h:BytesAt V n i O)(hi:i/8<n):nth O (n-1-i/8)<2^(i%8):=by
 have h1:=bseg_digit h.bytes (e:=O.length) (k:=i/8) (t:=O.length) (by rw[h.len];exact hi)
 have h2:=h.val
 unfold bval at h2
 rw[h2,h.len]at h1
 rw[h1]
 have e:(2:Nat)^i=256^(i/8)*2^(i%8):=by
  rw[show(256:Nat)=2^8 by rfl,←Nat.pow_mul,←Nat.pow_add,Nat.div_add_mod]
 have h3:V%2^i<2^i:=Nat.mod_lt _ (Nat.pow_pos (by omega))
 have h4:V%2^i/256^(i/8)<2^(i%8):=by
  rw[Nat.div_lt_iff_lt_mul (Nat.pow_pos (by omega)),Nat.mul_comm,←e]
  exact h3
 exact Nat.lt_of_le_of_lt (Nat.mod_le _ _) h4
theorem BytesAt.skip{V n i:Nat}{O:List Nat}(h:BytesAt V n i O)(hb:bitB V i=false):BytesAt V n (i+1) O:=by
 refine⟨h.len,h.bytes,?_⟩
 have:V/2^i%2=0:=by
  unfold bitB at hb
  have:=of_decide_eq_false hb
  omega
 rw[h.val,mod_bit,this,Nat.mul_zero,Nat.add_zero]
theorem BytesAt.put{V n i:Nat}{O:List Nat}(h:BytesAt V n i O)(hi:i/8<n)(hb:bitB V i=true):BytesAt V n (i+1) (O.set (n-1-i/8) (nth O (n-1-i/8)+2^(i%8))):=by
 have hlow:=h.low hi
 have h8:(2:Nat)^(i%8)*2≤256:=by
  rw[←Nat.pow_succ]
  exact Nat.pow_le_pow_right (n:=2) (i:=i%8+1) (j:=8) (by omega) (by omega)
 have hbit:V/2^i%2=1:=of_decide_eq_true hb
 have hlen:=h.len
 refine⟨by simp[hlen],fun j=>?_,?_⟩
 ·by_cases hj:n-1-i/8=j
  ·rw[hj,nth_set_same (by omega),←hj];omega
  ·rw[nth_set_ne hj];exact h.bytes j
 ·have h1:=bseg_set (O:=O) (e:=n) (k:=i/8) (v:=nth O (n-1-i/8)+2^(i%8)) (by omega) hi n hi (Nat.le_refl _)
  have h2:=h.val
  unfold bval at h2 ⊢
  rw[List.length_set]
  rw[hlen]at h2 ⊢
  have e:(2:Nat)^i=256^(i/8)*2^(i%8):=by
   rw[show(256:Nat)=2^8 by rfl,←Nat.pow_mul,←Nat.pow_add,Nat.div_add_mod]
  rw[mod_bit,hbit,Nat.mul_one,←h2]
  rw[Nat.mul_add,←e]at h1
  omega
theorem byte_or1{a r:Nat}(hr:r<8)(ha:a<2^r):bits .or .u8 (a:Int) ((2^r:Nat):Int)=((a+2^r:Nat):Int):=by
 have h8:(2:Nat)^r≤128:=Nat.pow_le_pow_right (n:=2) (i:=r) (j:=7) (by omega) (by omega)
 have hw:∀n:Int,0≤n→n<2^8→IntKind.u8.wrap n=n:=by
  intro n h0 h1
  rw[IntKind.wrap_u8]
  omega
 have:=bits_join_low .u8 8 (by decide) hw r (a:Int) ((2^r:Nat):Int) (by omega) (by exact_mod_cast ha) (by omega) (by omega)
  (by rw[Int.natCast_pow];exact Int.emod_self) (by omega)
 rw[this]
 omega
theorem made_u8(n:Nat)(hn:n≤17000000)(w:World):∃g wa,(Instr.makeSlice 23 (.int .i64 n) (.int .i64 n)).run Tryz.prog w=.ok (sl g 0 n n) wa∧Mod [] w wa∧w.heap.size≤g ∧
 Blk wa g 5 ((List.replicate n 0).map u8):=by
 refine⟨w.heap.size,_,run_make_row (z:=.int .u8 0) rfl Tryz.underlying23 info_u8 (by omega) n n (Nat.le_refl _) hn w,(Mod.refl _ _).alloc _,Nat.le_refl _,?_⟩
 have:=Blk.new w 5 ((List.replicate n 0).map u8)
 simpa [u8]using this
set_option maxRecDepth 100000 in
theorem c_sBytes(va:Value)(A:List Nat)(n:Nat)(w:World)(ha:SliceK i64 w va A)(hd:Digits A)(hn:n≤400000)(hfit:valS A<256^n) :
 Calls Tryz.prog 39 #[va,i64 n] w fun e w'=>∃v O,e=.returned v∧Mod [] w w'∧Own u8 5 w' w.heap.size v O∧O.length=n∧Bytes O∧bval O=valS A:=by
 obtain⟨g,wa,hmk,ma,hg,hba⟩:=made_u8 n (by omega) w
 have hs0:=hide (BytesAt.start (valS A) n)
 have HF:=hide hfit
 obtain⟨m,hm8⟩:∃m,m=8*n:=⟨_,rfl⟩
 have e0:(8:Int)*(n:Int)=(m:Int):=by omega
 have hmb:m≤3200000:=by omega
 have HM:=hide hm8
 clear hfit hm8
 go_enter Tryz.func39,Tryz.ntmps39
 go_wp2_with fail
 go_loopw [11] (fun i wr=>∃(i':Nat) (O:List Nat),i=i64 i'∧i'≤m∧Mod [] w wr∧Blk wr g 5 (O.map u8)∧Hid (BytesAt (valS A) n i' O)) (fun i _=>m-(intOf i).toNat)
 case atStart=>exact⟨0,_,rfl,by omega,ma,hba,hs0⟩
 case round=>
  obtain⟨i,O,rfl,hi,hm,hO,hS⟩:=hrel
  by_cases h1:i<m
  ·go_wp2_with fail
   refine(c_Has va A i _ (ha.mod hm (by simp)) hd (by omega)).mono ?_
   rintro e w1 ⟨rfl,m1⟩
   have hm1:Mod [] w w1:=Mod.trans (U:=[]) hm m1 (by simp) (by simp)
   have hO1:=hO.mod m1 (by simp)
   cases hb:bitB (valS A) i
   ·have hS2:=hide (hS.out.skip hb)
    clear hb
    go_wp2_with fail
    go_roundw
    case rel=>exact⟨i+1,O,by go_num,by omega,hm1,hO1,hS2⟩
    case measure=>simp[intOf];omega
   ·have hmn:=HM.out
    obtain⟨q,hq⟩:∃q,q=i/8:=⟨_,rfl⟩
    obtain⟨r,hr⟩:∃r,r=i%8:=⟨_,rfl⟩
    obtain⟨j,hj⟩:∃j,j=n-1-q:=⟨_,rfl⟩
    have hqn:q<n:=by omega
    have hS2:=hS.out.put (by omega) hb
    have hlow:=hS.out.low (i:=i) (by omega)
    have hOl:=hS.out.len
    have hOb:=hS.out.bytes j
    rw[←hq,←hr,←hj]at hS2
    rw[←hq,←hr,←hj]at hlow
    have hcj:=hO1.at j (by omega)
    have hfj:=hO1.frozen j
    obtain⟨x,hx⟩:∃x,x=nth O j:=⟨_,rfl⟩
    rw[←hx]at hS2 hlow hcj hOb
    obtain⟨pw,hpw⟩:∃pw:Nat,pw=2^r:=⟨_,rfl⟩
    have hor:=byte_or1 (a:=x) (r:=r) (by omega) hlow
    have hp8:pw≤128:=by rw[hpw];exact Nat.pow_le_pow_right (n:=2) (i:=r) (j:=7) (by omega) (by omega)
    rw[←hpw]at hS2 hor
    obtain⟨u,hu⟩:∃u,u=x+pw:=⟨_,rfl⟩
    rw[←hu]at hS2 hor
    have HS2:=hide hS2
    obtain⟨n1,hn1⟩:∃n1,n1=n-1:=⟨_,rfl⟩
    have e1:(n:Int)-1=(n1:Int):=by omega
    have e1':IntKind.i64.wrap (n1:Int)=(n1:Int):=by rw[IntKind.wrap_i64];omega
    have e2:(i:Int)/8=(q:Int):=by omega
    have e2':IntKind.i64.wrap (q:Int)=(q:Int):=by rw[IntKind.wrap_i64];omega
    have e3:(n1:Int)-(q:Int)=(j:Int):=by omega
    have e3':IntKind.i64.wrap (j:Int)=(j:Int):=by rw[IntKind.wrap_i64];omega
    have e4:(i:Int)%8=(r:Int):=by omega
    have e4':(i:Int).tmod 8=(r:Int):=by rw[Int.tmod_eq_emod_of_nonneg (by omega)];exact e4
    have e4'':(0:Int)≤(r:Int):=by omega
    have e5:IntKind.u8.wrap (2^min r 64)=(pw:Int):=by
     rw[Nat.min_eq_left (show r≤64 by omega),IntKind.wrap_u8]
     have:(2:Int)^r=(pw:Int):=by rw[hpw,Int.natCast_pow];rfl
     rw[this]
     omega
    have e5':IntKind.u8.wrap (2^r)=(pw:Int):=by rw[Nat.min_eq_left (show r≤64 by omega)]at e5;exact e5
    have hjn:(j:Int)<(n:Int):=by omega
    have hO2:Blk (w1.setCell ⟨g,j,none⟩ (.int .u8 (u:Int))) g 5 ((O.set j u).map u8):=hO1.set j u
    have hm2:Mod [] w (w1.setCell ⟨g,j,none⟩ (.int .u8 (u:Int))):=hm1.setCell _ _ (by simp;omega)
    have hib:i+1≤m:=h1
    clear hS2 hu hpw hx hj hr hq hn1 hlow hS hmn hb hOl
    go_wp2_with fail
    go_region_with (fail)
    all_goals
     have hO3:Blk ((w1.setCell ⟨g,j,none⟩ (.int .u8 (u:Int))).drew) g 5 ((O.set j u).map u8):=hO2.drew
     have hm3:Mod [] w ((w1.setCell ⟨g,j,none⟩ (.int .u8 (u:Int))).drew):=hm2.drew
     clear e1 e2 e3 e4 e0
     go_wp2_with fail
     go_roundw
     case rel=>exact⟨i+1,O.set j u,by go_num,hib,hm3,hO3,HS2⟩
     case measure=>simp[intOf];omega
  ·obtain rfl:i=m:=by omega
   have hbt:=hS.out.bytes
   have hOl:=hS.out.len
   have hv:bval O=valS A:=by
    rw[hS.out.val,HM.out,Nat.pow_mul]
    exact Nat.mod_eq_of_lt HF.out
   have HV:=hide hv
   have hown:Own u8 5 wr w.heap.size (sl g 0 O.length n) O:=Own.ofBlk (rest:=[]) hg (by rw[List.append_nil];exact hO) (by rw[hOl];rfl) (by simp[maxLen];omega)
   rw[hOl]at hown
   have HO:=hide hown
   have HL:=hide hOl
   clear hv hS hown hOl
   go_wp2_with fail
   go_ret
   exact⟨_,O,rfl,hm,HO.out,HL.out,hbt,HV.out⟩
structure ShlAt(A O:List Nat)(n i:Nat):Prop where
 len:O.length=A.length+1
 digits:Digits O
 zero:∀j,i<j→nth O j=0
 low:nth O i<2^n
 val:valS O=valS (A.take i)*2^n
theorem ShlAt.start(A:List Nat)(n:Nat):ShlAt A (List.replicate (A.length+1) 0) n 0:=
 ⟨by simp,Digits.zeros _,fun j _=>nth_replicate0 _ _,by rw[nth_replicate0];exact Nat.pow_pos (by omega),by simp[valS_replicate0,valS]⟩
theorem shl_low{x n:Nat}(hn:n<16):x*2^n%65536+2^n≤65536:=by
 have e:(65536:Nat)=2^(16-n)*2^n:=by rw[←Nat.pow_add,show 16-n+n=16 by omega]
 rw[e,Nat.mul_mod_mul_right]
 have h:=Nat.mod_lt x (Nat.pow_pos (n:=16-n) (show 0<2 by omega))
 have h2:(x%2^(16-n)+1)*2^n≤2^(16-n)*2^n:=Nat.mul_le_mul_right _ h
 rw[Nat.add_mul]at h2
 omega
theorem shl_high{x n:Nat}(hx:x<65536):x*2^n/65536<2^n:=by
 rw[Nat.div_lt_iff_lt_mul (by omega),Nat.mul_comm]
 exact Nat.mul_lt_mul_of_pos_left hx (Nat.pow_pos (by omega))
theorem ShlAt.next{A O:List Nat}{n i:Nat}(h:ShlAt A O n i)(hA:Digits A)(hn:n<16)(hi:i<A.length) :
 ShlAt A ((O.set i (nth O i+nth A i*2^n%65536)).set (i+1) (nth A i*2^n/65536)) n (i+1):=by
 have h1:=shl_low (x:=nth A i) hn
 have h2:=shl_high (x:=nth A i) (n:=n) (hA i)
 have h3:=h.low
 have hl:=h.len
 have h4:(2:Nat)^n≤2^15:=Nat.pow_le_pow_right (by omega) (by omega)
 refine⟨by simp[hl],(h.digits.set _ (by omega)).set _ (by omega),fun j hj=>by rw[nth_set_ne (by omega),nth_set_ne (by omega)];exact h.zero j (by omega),?_,?_⟩
 ·rw[nth_set_same (by simp;omega)];exact h2
 ·have e1:=valS_set (V:=O) (k:=i) (v:=nth O i+nth A i*2^n%65536) (by omega)
  have e2:=valS_set (V:=O.set i (nth O i+nth A i*2^n%65536)) (k:=i+1) (v:=nth A i*2^n/65536) (by simp;omega)
  rw[nth_set_ne (by omega),h.zero (i+1) (by omega),Nat.mul_zero,Nat.add_zero]at e2
  have e3:=h.val
  have e4:=Nat.mod_add_div (nth A i*2^n) 65536
  rw[e2,valS_take_any,Nat.pow_succ]
  generalize nth A i*2^n%65536=u at *
  generalize nth A i*2^n/65536=d at *
  generalize valS (O.set i (nth O i+u))=V1 at *
  generalize nth O i=o at *
  generalize valS O=V at *
  generalize valS (A.take i)=a at *
  generalize nth A i=x at *
  generalize 65536^i=p at *
  generalize 2^n=t at *
  clear h1 h2 h3 h4 hl
  grind
theorem ShlAt.done{A O:List Nat}{n:Nat}(h:ShlAt A O n A.length):valS O=valS A*2^n:=by rw[h.val,List.take_length]
set_option maxRecDepth 100000 in
theorem c_Shl(va:Value)(A:List Nat)(n:Nat)(w:World)(ha:SliceK i64 w va A)(cA:Canon A)(hn:n<16)(lA:A.length≤100000) :
 Calls Tryz.prog 66 #[va,i64 n] w fun e w'=>∃v L,e=.returned v∧Mod [] w w'∧SliceK i64 w' v L∧Canon L∧valS L=valS A*2^n∧L.length≤A.length+1:=by
 have hd:=cA.digits
 obtain⟨a,c,rfl⟩:=ha.lit
 by_cases h0:A.length=0
 ·obtain rfl:=List.eq_nil_of_length_eq_zero h0
  clear h0
  go_enter Tryz.func66,Tryz.ntmps66
  go_wp2_with fail
  go_ret
  exact⟨_,[],rfl,Mod.refl _ _,ha,cA,by simp[valS],by simp⟩
 ·have g0:((A.length:Int) == 0)=false:=by simpa using h0
  have hpos:0<A.length:=by omega
  obtain⟨b,o,rfl,_,hcA⟩:=ha.at hpos
  obtain⟨m,hm8⟩:∃m,m=A.length+1:=⟨_,rfl⟩
  obtain⟨g,wa,hmk,ma,hg,hba⟩:=made_int m (by omega) w
  rw[hm8]at hba
  have hs0:=hide (ShlAt.start A n)
  have e0:(n:Int)/16=0:=by omega
  have e1:(A.length:Int)+1=(m:Int):=by omega
  have e2:(n:Int)%16=(n:Int):=by omega
  have HM:=hide hm8
  have hmb:m≤100001:=by omega
  clear hm8 h0
  go_enter Tryz.func66,Tryz.ntmps66
  go_wp2_with fail
  go_loopw [21] (fun i wr=>∃(i':Nat) (O:List Nat),i=i64 i'∧i'≤A.length∧Mod [] w wr∧Blk wr g 3 (O.map i64)∧Hid (ShlAt A O n i')) (fun i _=>A.length-(intOf i).toNat)
  case atStart=>exact⟨0,_,rfl,by omega,ma,hba,hs0⟩
  case round=>
   obtain⟨i,O,rfl,hi,hm,hO,hS⟩:=hrel
   by_cases h1:i<A.length
   ·have hr1:wr.cell? ⟨b,o+i,none⟩=some (i64 (nth A i)):=by
     rw[←hcA i h1]
     exact World.cell?_of_block (w:=w) (hm.block b (block_lt_of_cell (hcA i h1)) (by simp))
    have hOl:=hS.out.len
    have hmm:=HM.out
    have hro:=hO.at i (by omega)
    have hfo:=hO.frozen i
    have hS2:=hS.out.next hd hn h1
    obtain⟨x,hx⟩:∃x,x=nth A i:=⟨_,rfl⟩
    obtain⟨z,hz⟩:∃z,z=nth O i:=⟨_,rfl⟩
    obtain⟨y,hy⟩:∃y,y=x*2^n:=⟨_,rfl⟩
    have hxb:x<65536:=by rw[hx];exact hd i
    have hzb:z<65536:=by rw[hz];exact hS.out.digits i
    have h4:(2:Nat)^n≤2^15:=Nat.pow_le_pow_right (by omega) (by omega)
    have hyb:y≤65536*32768:=by rw[hy];exact Nat.mul_le_mul (by omega) h4
    rw[←hx]at hr1 hS2
    rw[←hz]at hro hS2
    rw[←hy]at hS2
    have e3:(x:Int)*2^n=(y:Int):=by rw[hy,Int.natCast_mul,Int.natCast_pow];rfl
    obtain⟨u,hu⟩:∃u,u=y%65536:=⟨_,rfl⟩
    obtain⟨d,hd'⟩:∃d,d=y/65536:=⟨_,rfl⟩
    obtain⟨s,hs⟩:∃s,s=z+u:=⟨_,rfl⟩
    rw[←hu,←hd',←hs]at hS2
    have HS2:=hide hS2
    have e4:(y:Int)%65536=(u:Int):=by omega
    have e5:(y:Int)/65536=(d:Int):=by omega
    have e6:(z:Int)+(u:Int)=(s:Int):=by omega
    have hub:u<65536:=by omega
    have hdb:d≤32768:=by omega
    have him:(i:Int)<(m:Int):=by omega
    have him1:(i:Int)+1<(m:Int):=by omega
    have hO2:Blk (wr.setCell ⟨g,i,none⟩ (.int .i64 (s:Int))) g 3 ((O.set i s).map i64):=hO.set i s
    have hc2:=hO2.at (i+1) (by simp;omega)
    have hf2:=hO2.frozen (i+1)
    have hO3:Blk ((wr.setCell ⟨g,i,none⟩ (.int .i64 (s:Int))).setCell ⟨g,i+1,none⟩ (.int .i64 (d:Int))) g 3 (((O.set i s).set (i+1) d).map i64):=hO2.set (i+1) d
    have hm3:Mod [] w ((wr.setCell ⟨g,i,none⟩ (.int .i64 (s:Int))).setCell ⟨g,i+1,none⟩ (.int .i64 (d:Int))):=(hm.setCell _ _ (by simp;omega)).setCell _ _ (by simp;omega)
    have hib:i≤100000:=by omega
    clear hS2 hu hd' hs hx hz hS hmm hy h4 hOl e1
    go_wp2_with fail
    go_roundw
    case rel=>exact⟨i+1,_,by go_num,by omega,hm3,hO3,HS2⟩
    case measure=>simp[intOf];omega
   ·obtain rfl:i=A.length:=by omega
    have hdone:=hide hS.out.done
    have hOd:=hS.out.digits
    have hOl:=hide (hS.out.len.trans HM.out.symm)
    have hsl:SliceK i64 wr (sl g 0 m m) O:=by
     refine .inr ⟨g,0,m,by rw[hOl.out],by rw[hOl.out];omega,fun j hj=>?_⟩
     rw[Nat.zero_add]
     exact hO.at j hj
    clear hS
    go_wp2_with fail
    refine(c_trimS _ O _ hsl hOd (by have:=hOl.out;omega)).mono ?_
    rintro e w2 ⟨v2,L2,rfl,m2,hs2,hc2,hv2,hl2⟩
    have m12:Mod [] w w2:=Mod.trans (U:=[]) hm m2 (by simp) (by simp)
    have HV:=hide (hv2.trans hdone.out)
    have HL:=hide (Nat.le_trans hl2 (Nat.le_of_eq (hOl.out.trans HM.out)))
    clear hv2 hl2
    go_wp2_with fail
    go_ret
    exact⟨v2,L2,rfl,m12,hs2,hc2,HV.out,HL.out⟩
end Go.Proofs.YtfgmnbmnpihjdaaGreatDoor
