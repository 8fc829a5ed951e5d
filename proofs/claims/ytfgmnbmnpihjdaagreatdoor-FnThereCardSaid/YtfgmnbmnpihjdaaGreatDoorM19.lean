/- Lemmas of mine for the walk and its plain laws: SpecB SpecC SpecD SpecE SpecF SpecG -/
import Derived.Test.YtfgmnbmnpihjdaaGreatDoorM15
set_option linter.all false
set_option maxHeartbeats 2000000
namespace Go.Proofs.YtfgmnbmnpihjdaaGreatDoor
open Go.RowKit
theorem valS_split(L:List Nat)(i:Nat)(h:i≤L.length):valS L=valS (L.take i)+65536^i*valS (L.drop i):=by
 have h1:=valS_append (L.take i) (L.drop i)
 rw[List.take_append_drop,List.length_take,Nat.min_eq_left h]at h1
 exact h1
theorem valS_take_succ{L:List Nat}{i:Nat}(h:i<L.length):valS (L.take (i+1))=valS (L.take i)+65536^i*nth L i:=by
 rw[List.take_succ_eq_append_getElem h,valS_append,List.length_take,Nat.min_eq_left (by omega),nth_eq L i h]
 simp[valS]
theorem Digits.take{L:List Nat}(h:Digits L)(i:Nat):Digits (L.take i):=by
 intro j
 have:=h j
 unfold nth at *
 by_cases hj:j<i
 ·simpa [List.getElem?_take,hj]using this
 ·simp[List.getElem?_take,hj]
theorem Digits.tail{x:Nat}{l:List Nat}(h:Digits (x::l)):x<65536∧Digits l:=⟨h 0,fun i=>h (i+1)⟩
theorem valS_lt{L:List Nat}(h:Digits L):valS L<65536^L.length:=by
 induction L with
 |nil=>simp[valS]
 |cons x l ih=>
  have h2:=ih h.tail.2
  have h1:=h.tail.1
  simp only[valS,List.length_cons,Nat.pow_succ]
  omega
theorem valS_ge{L:List Nat}(h:Canon L)(h0:L.length≠0):65536^(L.length-1)≤valS L:=by
 have h1:=h.top h0
 have h2:=valS_take_succ (L:=L) (i:=L.length-1) (by omega)
 rw[show L.length-1+1=L.length by omega,List.take_length]at h2
 rw[h2]
 have h3:65536^(L.length-1)*1≤65536^(L.length-1)*nth L (L.length-1):=Nat.mul_le_mul_left _ (by omega)
 omega
theorem valS_shorter{A B:List Nat}(hA:Digits A)(hB:Canon B)(h:A.length<B.length):valS A<valS B:=by
 have h1:=valS_lt hA
 have h2:=valS_ge hB (by omega)
 have h3:65536^A.length≤65536^(B.length-1):=Nat.pow_le_pow_right (by omega) (by omega)
 omega
theorem drop_eq{A B:List Nat}{j:Nat}(hl:A.length=B.length)(h:∀i,j≤i→i<A.length→nth A i=nth B i):A.drop j=B.drop j:=by
 apply nth_ext
 ·simp[hl]
 ·intro i hi
  simp at hi
  have:=h (j+i) (by omega) (by omega)
  simpa [nth]using this
theorem valS_less{A B:List Nat}{j:Nat}(hA:Digits A)(hl:A.length=B.length)(hj:j<A.length)(h:∀i,j+1≤i→i<A.length→nth A i=nth B i)(hlt:nth A j<nth B j):valS A<valS B:=by
 have h1:=valS_split A (j+1) (by omega)
 have h2:=valS_split B (j+1) (by omega)
 rw[drop_eq hl h,valS_take_succ hj]at h1
 rw[valS_take_succ (by omega)]at h2
 have h3:=valS_lt (hA.take j)
 rw[List.length_take,Nat.min_eq_left (by omega)]at h3
 have h4:65536^j*(nth A j+1)≤65536^j*nth B j:=Nat.mul_le_mul_left _ hlt
 rw[Nat.mul_add]at h4
 omega
def cmpV(a b:Nat):Int:=if a<b then -1 else if b<a then 1 else 0
theorem SliceK.at{k:Nat→Value}{w:World}{a:Option Addr}{n c:Nat}{L:List Nat}(h:SliceK k w (.slice a n c) L)(h0:0<L.length) :
 ∃b o,a=some ⟨b,o,none⟩∧L.length≤c∧∀i,i<L.length→w.cell? ⟨b,o+i,none⟩=some (k (nth L i)):=by
 rcases h with⟨_,h2⟩|⟨b,o,c',h1,h2,h3⟩
 ·rw[h2]at h0;simp at h0
 ·simp only[Value.slice.injEq]at h1
  obtain⟨rfl,_,rfl⟩:=h1
  exact⟨b,o,rfl,h2,h3⟩
set_option maxRecDepth 100000 in
theorem c_Cmp(va vb:Value)(A B:List Nat)(w:World)(ha:SliceK i64 w va A)(hb:SliceK i64 w vb B)(cA:Canon A)(cB:Canon B)(hs:A.length≤1000000) :
 Calls Tryz.prog 8 #[va,vb] w fun e w'=>e=.returned (.int .i64 (cmpV (valS A) (valS B)))∧Mod [] w w':=by
 obtain⟨aa,ca,rfl⟩:=ha.lit
 obtain⟨ab,cb,rfl⟩:=hb.lit
 rcases Nat.lt_trichotomy A.length B.length with hl|hl|hl
 ·have hv:=hide (show cmpV (valS A) (valS B) = -1 by unfold cmpV;rw[if_pos (valS_shorter cA.digits cB hl)])
  clear hs
  go_enter Tryz.func8,Tryz.ntmps8
  go_wp2_with fail
  go_ret
  exact⟨by rw[hv.out];rfl,Mod.refl _ _⟩
 ·have HS:=hide hs
  rw[←hl]at hb ⊢
  have HL:=hide hl
  clear hl
  go_enter Tryz.func8,Tryz.ntmps8
  go_wp2_with fail
  go_loopw [5] (fun i wr=>∃j:Nat,j≤A.length∧i=.int .i64 ((j:Int)-1)∧Hid (∀i,j≤i→i<A.length→nth A i=nth B i)∧Mod [] w wr) (fun i _=>(intOf i+1).toNat)
  case atStart=>
   exact⟨A.length,Nat.le_refl _,by first|rfl|go_num,hide (fun i h1 h2=>by omega),Mod.refl _ _⟩
  case round=>
   obtain⟨j,hj,rfl,he,hm⟩:=hrel
   cases j with
   |zero=>
    have hv:=hide (show cmpV (valS A) (valS B)=0 by
     have hAB:A=B:=nth_ext HL.out (fun i hi=>he.out i (by omega) hi)
     rw[hAB];unfold cmpV;rw[if_neg (by omega),if_neg (by omega)])
    go_wp2_with fail
    go_ret
    exact⟨by rw[hv.out];rfl,hm⟩
   |succ j=>
    obtain⟨b1,o1,rfl,_,hcA⟩:=(ha.mod hm (by simp)).at (by omega)
    have hb2:=hb
    rw[HL.out]at hb2
    obtain⟨b2,o2,rfl,_,hcB⟩:=(hb2.mod hm (by simp)).at (by have:=HL.out;omega)
    have h1:=hcA j (by omega)
    have h2:=hcB j (by have:=HL.out;omega)
    have e1:Hid (((j+1:Nat):Int)-1=(j:Int)):=hide (by omega)
    rw[e1.out]
    clear hcA hcB hb2
    rcases Nat.lt_trichotomy (nth A j) (nth B j)with hc|hc|hc
    ·have hv:=hide (show cmpV (valS A) (valS B) = -1 by unfold cmpV;rw[if_pos (valS_less cA.digits HL.out (by omega) he.out hc)])
     have hci:(nth A j:Int)<(nth B j:Int):=by omega
     go_wp2_with fail
     go_quiet (fail)
     go_wp2_with fail
     go_ret
     exact⟨by rw[hv.out];rfl,hm.drewN _⟩
    ·have he2:Hid (∀i,j≤i→i<A.length→nth A i=nth B i):=hide (fun i h1 h2=>by
      rcases Nat.eq_or_lt_of_le h1 with h|h
      ·rw[←h];exact hc
      ·exact he.out i h h2)
     rw[←hc]at h2
     clear hc he
     go_wp2_with fail
     go_quiet (fail)
     go_wp2_with fail
     go_quiet (fail)
     go_wp2_with fail
     go_roundw
     case rel=>exact⟨j,by omega,by go_num,he2,by first|exact hm.drewN _|exact(hm.drewN _).drewN _⟩
     case measure=>simp[intOf]
    ·have hv:=hide (show cmpV (valS A) (valS B)=1 by
      have:=valS_less cB.digits HL.out.symm (by have:=HL.out;omega) (fun i h1 h2=>(he.out i h1 (by have:=HL.out;omega)).symm) hc
      unfold cmpV;rw[if_neg (by omega),if_pos this])
     have hci:¬(nth A j:Int)<(nth B j:Int):=by omega
     have hci2:(nth B j:Int)<(nth A j:Int):=by omega
     go_wp2_with fail
     go_quiet (fail)
     go_wp2_with fail
     go_quiet (fail)
     go_wp2_with fail
     go_ret
     exact⟨by rw[hv.out];rfl,by first|exact hm.drewN _|exact(hm.drewN _).drewN _⟩
 ·have hv:=hide (show cmpV (valS A) (valS B)=1 by have:=valS_shorter cB.digits cA hl;unfold cmpV;rw[if_neg (by omega),if_pos this])
  have hn:¬A.length<B.length:=by omega
  clear hs
  go_enter Tryz.func8,Tryz.ntmps8
  go_wp2_with fail
  go_ret
  exact⟨by rw[hv.out];rfl,Mod.refl _ _⟩
theorem trimN_valS{L:List Nat}:∀k,k≤L.length→valS (L.take (trimN L k))=valS (L.take k):=by
 intro k
 induction k with
 |zero=>intro _;rfl
 |succ k ih=>
  intro hk
  simp only[trimN]
  split
  ·rename_i h
   rw[ih (by omega),valS_take_succ (by omega),h,Nat.mul_zero,Nat.add_zero]
  ·rfl
theorem trim_canon{L:List Nat}(h:Digits L):Canon (L.take (trimN L L.length))∧valS (L.take (trimN L L.length))=valS L:=by
 have hle:=trimN_le L L.length
 have hl:(L.take (trimN L L.length)).length=trimN L L.length:=by simp;omega
 refine⟨⟨h.take _,?_⟩,?_⟩
 ·rw[hl]
  intro h0
  have:=trimN_top L.length h0
  have e:nth (L.take (trimN L L.length)) (trimN L L.length-1)=nth L (trimN L L.length-1):=by
   simp[nth,show trimN L L.length-1<trimN L L.length by omega]
  rw[e]
  exact this
 ·rw[trimN_valS L.length (Nat.le_refl _),List.take_length]
set_option maxRecDepth 100000 in
theorem c_trimS(v:Value)(L:List Nat)(w:World)(h:SliceK i64 w v L)(hd:Digits L)(hbig:L.length≤1000000) :
 Calls Tryz.prog 48 #[v] w fun e w'=>∃v' L',e=.returned v'∧Mod [] w w'∧SliceK i64 w' v' L'∧Canon L'∧valS L'=valS L∧L'.length≤L.length:=by
 obtain⟨a,c,rfl⟩:=h.lit
 have hfin:=hide (trim_canon hd)
 have hle:=hide (trimN_le L L.length)
 have htake:∀k wr,k≤L.length→Mod [] w wr→SliceK i64 wr (.slice a k c) (L.take k):=by
  intro k wr hk hm
  rcases h.mod hm (by simp)with⟨h1,h2⟩|⟨b,o,c',h1,h2,h3⟩
  ·simp only[Value.slice.injEq]at h1
   obtain⟨rfl,_,rfl⟩:=h1
   rw[h2]at hk ⊢
   obtain rfl:k=0:=by simpa using hk
   exact .inl ⟨rfl,rfl⟩
  ·simp only[Value.slice.injEq]at h1
   obtain⟨rfl,_,rfl⟩:=h1
   have e:(L.take k).length=k:=by simp;omega
   refine .inr ⟨b,o,c,by rw[e],by omega,fun i hi=>?_⟩
   rw[e]at hi
   have en:nth (L.take k) i=nth L i:=by simp[nth,hi]
   rw[h3 i (by omega),en]
 go_enter Tryz.func48,Tryz.ntmps48
 go_wp2_with fail
 go_loopw [0] (fun v wr=>∃k:Nat,k≤L.length∧v=.slice a k c∧Hid (trimN L k=trimN L L.length)∧Mod [] w wr) (fun v _=>match v with | .slice _ n _=>n|_=>0)
 case atStart=>exact⟨L.length,Nat.le_refl _,rfl,hide rfl,Mod.refl _ _⟩
 case round=>
  obtain⟨k,hk,rfl,ht,hm⟩:=hrel
  cases k with
  |zero=>
   have hs:=htake 0 wr hk hm
   have e0:0=trimN L L.length:=ht.out
   clear htake
   go_wp2_with fail
   go_ret
   rw[e0]at hs
   refine⟨_,_,?_,hm,hs,hfin.out.1,hfin.out.2,by rw[List.length_take];exact Nat.min_le_right _ _⟩
   rw[←e0]
   rfl
  |succ k=>
   obtain⟨b,o,rfl,hcc,hc⟩:=(h.mod hm (by simp)).at (by omega)
   have h1:=hc k (by omega)
   by_cases h0:nth L k=0
   ·have ht2:Hid (trimN L k=trimN L L.length):=hide (by have:=ht.out;simp only[trimN]at this;rw[if_pos h0]at this;exact this)
    rw[h0]at h1
    clear htake hc h0 ht
    have e1:((k+1:Nat):Int)-1=(k:Int):=by omega
    go_wp2_with fail
    exact⟨⟨k,by omega,rfl,ht2,hm⟩,Nat.lt_succ_self k⟩
   ·have hs:=htake (k+1) wr hk hm
    have e0:k+1=trimN L L.length:=by have:=ht.out;simp only[trimN]at this;rw[if_neg h0]at this;exact this
    have E0:=hide e0
    have e1:((k+1:Nat):Int)-1=(k:Int):=by omega
    have hne:((nth L k:Int) == 0)=false:=by simpa using h0
    clear htake hc ht e0
    go_wp2_with fail
    go_ret
    rw[E0.out]at hs
    refine⟨_,_,?_,hm,hs,hfin.out.1,hfin.out.2,by rw[List.length_take];exact Nat.min_le_right _ _⟩
    rw[←E0.out]
    rfl
structure OfAt(V D:List Nat)(i j:Nat):Prop where
 len:D.length=4*i+j
 digits:Digits D
 val:valS D=val (V.take i)+W^i*(nth V i%65536^j)
theorem pow65536_4(i:Nat):65536^(4*i)=W^i:=by rw[Nat.pow_mul,W_eq]
theorem OfAt.next{V D:List Nat}{i j:Nat}(h:OfAt V D i j):OfAt V (D++[nth V i/65536^j%65536]) i (j+1):=by
 refine⟨by simp[h.len];omega,h.digits.push (Nat.mod_lt _ (by omega)),?_⟩
 rw[valS_append,h.val,h.len,Nat.pow_add,pow65536_4,Nat.pow_succ,Nat.mod_mul,Nat.mul_add,Nat.add_assoc,←Nat.mul_assoc]
 simp[valS]
theorem OfAt.word{V D:List Nat}{i:Nat}(h:OfAt V D i 4)(hV:Words V)(hi:i<V.length):OfAt V D (i+1) 0:=by
 refine⟨by rw[h.len];omega,h.digits,?_⟩
 have h1:=h.val
 rw[show 65536^4=W by rw[W_eq],Nat.mod_eq_of_lt (hV.nth i)]at h1
 rw[h1,val_take_succ hi,Nat.pow_zero,Nat.mod_one,Nat.mul_zero,Nat.add_zero]
theorem OfAt.start(V:List Nat):OfAt V [] 0 0:=⟨rfl,fun i=>by rw[nth_ge (by simp)];omega,by simp[valS,Go.Proofs.YtfgmnbmnpihjdaaGreatDoor.val,Nat.mod_one]⟩
theorem and_65535(x s j:Nat)(hx:x<W)(hs:s=16*j)(hj:j<4):bits .and .u64 ((x:Int)/2^min s 64) 65535=((x/65536^j%65536:Nat):Int):=by
 rw[Nat.min_eq_left (show s≤64 by omega)]
 have e1:((x:Int)/2^s)=((x/65536^j:Nat):Int):=by
  rw[hs,Int.natCast_ediv,Int.natCast_pow,Int.pow_mul]
  rfl
 rw[e1]
 have h:=bits_and_u64_nat (x/65536^j) 65535 (Nat.lt_of_le_of_lt (Nat.div_le_self _ _) (by rw[W_eq]at hx;exact hx)) (by omega)
 have h2:(x/65536^j) &&& 65535=(x/65536^j)%65536:=Nat.and_two_pow_sub_one_eq_mod (x/65536^j) 16
 rw[h2]at h
 exact h
set_option maxRecDepth 100000 in
theorem c_Of(v:Value)(V:List Nat)(w:World)(h:SliceK u64 w v V)(hV:Words V)(hbig:V.length≤100000) :
 Calls Tryz.prog 20 #[v] w fun e w'=>∃v' L',e=.returned v'∧Mod [] w w'∧SliceK i64 w' v' L'∧Canon L'∧valS L'=val V∧L'.length≤4*V.length:=by
 obtain⟨a,c,rfl⟩:=h.lit
 have hown0:Own i64 3 (w.alloc (.cells #[] 3)) w.heap.size (sl w.heap.size 0 0 0) []:=Own.ofBlk (rest:=[]) (Nat.le_refl _) (Blk.new w _ []) rfl (by simp[maxLen])
 go_enter Tryz.func20,Tryz.ntmps20
 go_wp2_with fail
 go_loopw [3,10] (fun v i wr=>∃(i':Nat) (D:List Nat) (vv:Value),i'≤V.length∧i=i64 i'∧vv=v∧Mod [] w wr∧Own i64 3 wr w.heap.size vv D∧Hid (OfAt V D i' 0)) (fun _ i _=>V.length-(intOf i).toNat)
 case atStart=>exact⟨0,[],_,by omega,rfl,rfl,(Mod.refl _ _).alloc _,hown0,hide (OfAt.start V)⟩
 case round=>
  obtain⟨i,D,vv,hi,rfl,rfl,hm,hv,hS⟩:=hrel
  by_cases hlt:i<V.length
  ·obtain⟨b,o,rfl,hcc,hc⟩:=(h.mod hm (by simp)).at (by omega)
   have h1:=hc i hlt
   have hwi:=hide (hV.nth i)
   clear hc
   go_wp2_with fail
   go_loopw [3,6] (fun v j wr=>∃(j':Nat) (D:List Nat) (vv:Value),j'≤4∧j=i64 j'∧vv=v∧Mod [] w wr∧Own i64 3 wr w.heap.size vv D∧Hid (OfAt V D i j')) (fun _ j _=>4-(intOf j).toNat)
   case atStart=>exact⟨0,D,_,by omega,rfl,rfl,hm,hv,hS⟩
   case round=>
    clear hm hv hS h1 D
    obtain⟨j,D,vv,hj,rfl,rfl,hm,hv,hS⟩:=hrel
    by_cases hj4:j<4
    ·obtain⟨s,hs⟩:∃s,s=16*j:=⟨_,rfl⟩
     have es:IntKind.i64.wrap (16*(j:Int))=(s:Int):=by rw[IntKind.wrap_i64];omega
     have hand:=and_65535 (nth V i) s j hwi.out hs hj4
     have hS2:=hide hS.out.next
     have hlen:D.length<900000:=by have:=hS.out.len;omega
     obtain⟨u,hu⟩:∃u,u=nth V i/65536^j%65536:=⟨_,rfl⟩
     rw[←hu]at hand hS2
     have hu2:u<65536:=by rw[hu];exact Nat.mod_lt _ (by omega)
     have eu:IntKind.i64.wrap (u:Int)=(u:Int):=by rw[IntKind.wrap_i64];omega
     have hs0:(0:Int)≤(s:Int):=by omega
     have hma:Mod [] w (wr.alloc (.cells #[.int .i64 (u:Int)] 3)):=hm.alloc _
     have hva:Own i64 3 (wr.alloc (.cells #[.int .i64 (u:Int)] 3)) w.heap.size vv D:=hv.mod ((Mod.refl [] _).alloc _) (by simp)
     have hca:(wr.alloc (.cells #[.int .i64 (u:Int)] 3)).cell? ⟨wr.heap.size,0,none⟩=some (i64 u):=blk_cell0 (Blk.new wr 3 [i64 u])
     clear hs hu hu2 hS
     go_wp2_with (at_builtin;refine wpl_push rfl _ _ _ rfl vv wr.heap.size 1 rfl rfl i64 rfl Tryz.underlying25 info_int (by omega) (fun _=>rfl) hma hva hca hlen ?_)
     intro v' w' hv' hm'
     go_wp2_with fail
     go_roundw
     case rel=>exact⟨j+1,_,v',by omega,by go_num,rfl,hm',hv',hS2⟩
     case measure=>simp[intOf];omega
    ·obtain rfl:j=4:=by omega
     have hS2:=hide (hS.out.word hV hlt)
     clear hS
     go_wp2_with fail
     go_roundw
     case rel=>exact⟨i+1,D,vv,by omega,by go_num,rfl,hm,hv,hS2⟩
     case measure=>simp[intOf];omega
  ·obtain rfl:V.length=i:=by omega
   have hl:=hS.out.len
   have hvv:=hide hS.out.val
   have hdd:=hS.out.digits
   have hlen:=hide hl
   clear hS hl
   go_wp2_with fail
   refine(c_trimS vv D _ hv.slice hdd (by have:=hlen.out;omega)).mono ?_
   rintro e w2 ⟨v2,L2,rfl,m2,hs2,hc2,hv2,hl2⟩
   have m12:Mod [] w w2:=Mod.trans (U:=[]) hm m2 (by simp) (by simp)
   have HV:=hide hv2
   clear hv2 hi hlt
   go_wp2_with fail
   go_ret
   refine⟨v2,L2,rfl,m12,hs2,hc2,?_,by have:=hlen.out;omega⟩
   rw[HV.out,hvv.out,List.take_length,Nat.pow_zero,Nat.mod_one]
   rfl
theorem nth_push0(V:List Nat)(j:Nat):nth (V++[0]) j=nth V j:=by
 rcases Nat.lt_or_ge j V.length with h|h
 ·exact nth_append_left h
 ·rw[nth_append_right h,nth_ge h]
  rcases Nat.eq_zero_or_pos (j-V.length)with h0|h0
  ·rw[h0];rfl
  ·exact nth_ge (by rw[List.length_singleton];exact h0)
theorem SB.push{B V:List Nat}{k t i:Nat}(h:SB B V k k t i):SB B (V++[0]) (k+1) k t i:=
 ⟨by simp[h.len],h.words.append (Words.replicate0 1),fun j hj=>by rw[nth_push0];exact h.zero j hj,h.left,by rw[nth_push0];exact h.cur,by
   have:=h.val
   rw[Go.Proofs.YtfgmnbmnpihjdaaGreatDoor.val_append]
   simpa [Go.Proofs.YtfgmnbmnpihjdaaGreatDoor.val]using this⟩
theorem SB.roll{B V:List Nat}{n k i:Nat}(h:SB B V n k 8 i):SB B V n (k+1) 0 i:=
 ⟨h.len,h.words,fun j hj=>h.zero j (by omega),by have:=h.left;omega,by rw[h.zero (k+1) (by omega)];rfl,by rw[h.val,show 8*(k+1)+0=8*k+8 by omega]⟩
theorem Own.drew{k:Nat→Value}{T:Nat}{w:World}{base:Nat}{v:Value}{L:List Nat}(h:Own k T w base v L):Own k T w.drew base v L:=h
theorem Own.put{k:Nat→Value}{T:Nat}{w:World}{base g cap:Nat}{L:List Nat}{rest:List Value}(hb:base≤g)(h:Blk w g T (L.map k++rest))(hc:L.length+rest.length=cap)(hm:cap≤maxLen)(q u:Nat)(hq:q<L.length) :
 Own k T (w.setCell ⟨g,q,none⟩ (k u)) base (sl g 0 L.length cap) (L.set q u):=by
 have h2:=h.setCell q (k u)
 rw[List.set_append_left _ _ (by simpa using hq),←List.map_set]at h2
 have:=Own.ofBlk (k:=k) hb h2 (cap:=cap) (by simpa using hc) hm
 simpa using this
set_option maxRecDepth 100000 in
theorem c_OfBytes(v:Value)(B:List Nat)(w:World)(h:SliceB w v B)(hB:Bytes B)(hbig:B.length≤100000) :
 Calls Tryz.prog 9 #[v] w fun e w'=>∃v' L',e=.returned v'∧Mod [] w w'∧SliceK i64 w' v' L'∧Canon L'∧valS L'=bval B∧L'.length≤1000000:=by
 obtain⟨a,c,rfl⟩:=h.lit
 have hown0:Own u64 51 (w.alloc (.cells #[] 51)) w.heap.size (sl w.heap.size 0 0 0) []:=Own.ofBlk (rest:=[]) (Nat.le_refl _) (Blk.new w _ []) rfl (by simp[maxLen])
 go_enter Tryz.func9,Tryz.ntmps9
 go_wp2_with fail
 go_loopw [3,9] (fun v i wr=>∃(n q r jn:Nat) (V:List Nat) (vv:Value),n≤B.length∧i=i64 n∧vv=v∧Mod [] w wr∧Own u64 51 wr w.heap.size vv V∧Hid (SB B V V.length q r jn∧n=8*q+r∧r<8∧V.length=(n+7)/8)) (fun _ i _=>B.length-(intOf i).toNat)
 case atStart=>exact⟨0,0,0,B.length,[],_,by omega,rfl,rfl,(Mod.refl _ _).alloc _,hown0,hide ⟨SB.start B 0,rfl,by omega,rfl⟩⟩
 case round=>
  obtain⟨n,q,r,jn,V,vv,hn,rfl,rfl,hm,hv,hS⟩:=hrel
  by_cases hlt:n<B.length
  ·have hl:=hS.out.1.left
   have hnq:=hS.out.2.1
   have hr8:=hS.out.2.2.1
   have hVl:=hS.out.2.2.2
   obtain⟨j,rfl⟩:∃j,jn=j+1:=⟨jn-1,by omega⟩
   obtain⟨l1,hl1⟩:∃l1,l1=B.length-1:=⟨_,rfl⟩
   have e1:IntKind.i64.wrap ((B.length:Int)-1)=(l1:Int):=by rw[IntKind.wrap_i64];omega
   have e2:IntKind.i64.wrap ((l1:Int)-(n:Int))=(j:Int):=by rw[IntKind.wrap_i64];omega
   have e3:(n:Int)%8=(r:Int):=by omega
   have e4:(n:Int)/8=(q:Int):=by omega
   obtain⟨s,hs⟩:∃s,s=8*r:=⟨_,rfl⟩
   have e5:IntKind.i64.wrap (8*(r:Int))=(s:Int):=by rw[IntKind.wrap_i64];omega
   have e6:IntKind.i64.wrap (q:Int)=(q:Int):=by rw[IntKind.wrap_i64];omega
   have e7:(n:Int).tmod 8=(r:Int):=by rw[Int.tmod_eq_emod_of_nonneg (by omega)];exact e3
   have hs0:(0:Int)≤(s:Int):=by omega
   have hboth:∃b o,a=some ⟨b,o,none⟩∧w.cell? ⟨b,o+j,none⟩=some (u8 (nth B j)):=by
    rcases h with⟨_,h2⟩|⟨_,_,_,h2⟩|⟨b,o,c',h1,h2,h3⟩
    ·rw[h2]at hlt;simp at hlt
    ·rw[h2]at hlt;simp at hlt
    ·simp only[Value.slice.injEq]at h1
     obtain⟨rfl,_,rfl⟩:=h1
     exact⟨b,o,rfl,h3 j (by omega)⟩
   obtain⟨b,o,rfl,hcell⟩:=hboth
   have hjl:(j:Int)<(B.length:Int):=by omega
   have HL:=hide (show n+1=8*q+(r+1)∧r<8∧B.length=j+1+n∧s=8*r by omega)
   by_cases h0:r=0
   ·have g0:((r:Int) == 0)=true:=by subst h0;rfl
    have hVq:V.length=q:=by omega
    have hlen:V.length<900000:=by omega
    have hSp:Hid (SB B (V++[0]) (V++[0]).length q r (j+1)∧q<(V++[0]).length∧(V++[0]).length=q+1):=by
     have h1:=hS.out.1
     rw[hVq]at h1
     refine hide ⟨?_,by simp;omega,by simp;omega⟩
     rw[List.length_append,hVq,List.length_singleton]
     exact h1.push
    have hma:Mod [] w (wr.alloc (.cells #[.int .u64 0] 51)):=hm.alloc _
    have hva:Own u64 51 (wr.alloc (.cells #[.int .u64 0] 51)) w.heap.size vv V:=hv.mod ((Mod.refl [] _).alloc _) (by simp)
    have hca:(wr.alloc (.cells #[.int .u64 0] 51)).cell? ⟨wr.heap.size,0,none⟩=some (u64 0):=blk_cell0 (Blk.new wr 51 [u64 0])
    clear hl hnq hr8 hVl hs hl1 h0 hS hVq
    go_wp2_with (at_builtin;refine wpl_push rfl _ _ _ rfl vv wr.heap.size 1 rfl rfl u64 rfl Tryz.underlying50 info_uint (by omega) (fun _=>rfl) hma hva hca hlen ?_)
    intro v1 w1 hv1 hm1
    obtain⟨V1,hV1⟩:∃V1,V1=V++[0]:=⟨_,rfl⟩
    rw[←hV1]at hv1 hSp
    clear hma hva hca hlen hm hv hV1
    obtain⟨gS,gq,gl⟩:=hSp.out
    rcases hv1.blk with⟨_,hnil⟩|⟨g,cap,rest,rfl,hb,hg,hcap,hmx⟩
    ·rw[hnil]at gq;simp at gq
    have hcq:w1.cell? ⟨g,q,none⟩=some (u64 (nth V1 q)):=by rw[hg.cell,List.getElem?_append_left (by simpa using gq),map_get gq]
    have hfq:=hg.frozen q
    have hcb:w1.cell? ⟨b,o+j,none⟩=some (u8 (nth B j)):=by
     rw[←hcell]
     exact World.cell?_of_block (w:=w) (hm1.block b (block_lt_of_cell hcell) (by simp))
    have ebt:IntKind.u64.wrap (nth B j:Int)=(nth B j:Int):=by have:=hB j;exact u64_wrap_id _ (by omega) (by omega)
    have hcur:nth V1 q<256^r:=by rw[gS.cur];exact bseg_lt hB _ _
    have hor:=byte_or r HL.out.2.2.2 HL.out.2.1 hcur (hB j)
    rw[show s=min s 64 from(Nat.min_eq_left (by have:=HL.out;omega)).symm]at hor
    have hS2:=gS.byte hB gq HL.out.2.1
    obtain⟨nw,hnw⟩:∃nw,nw=nth V1 q+nth B j*2^(8*r):=⟨_,rfl⟩
    rw[←hnw]at hor hS2
    have hown:=Own.put hb hg hcap hmx q nw gq
    have hmod:Mod [] w (w1.setCell ⟨g,q,none⟩ (.int .u64 (nw:Int))):=hm1.setCell _ _ (by simp;omega)
    have hqi:(q:Int)<(V1.length:Int):=by omega
    have hfin:Hid (∃q' r',SB B (V1.set q nw) (V1.set q nw).length q' r' j∧n+1=8*q'+r'∧r'<8∧(V1.set q nw).length=(n+1+7)/8):=by
     have h1:=HL.out
     have hle:(V1.set q nw).length=V1.length:=by simp
     rw[←hle]at hS2
     rcases Nat.lt_or_ge (r+1) 8 with h8|h8
     ·exact hide ⟨q,r+1,hS2,by omega,h8,by rw[List.length_set];omega⟩
     ·have hr7:r+1=8:=by omega
      rw[hr7]at hS2
      exact hide ⟨q+1,0,hS2.roll,by omega,by omega,by rw[List.length_set];omega⟩
    obtain⟨q',r',hfin⟩:=hfin.out
    have HF:=hide hfin
    have HO:=hide hown
    clear hfin hown hnw hcur hS2 gS gl gq hSp hv1 hcap
    go_wp2_with fail
    go_region_with (fail)
    all_goals
     go_wp2_with fail
     go_roundw
     case rel=>exact⟨n+1,q',r',j,_,_,by omega,by go_num,rfl,by first|exact hmod|exact hmod.drew|exact hmod.drewN _,HO.out.drew,HF⟩
     case measure=>simp[intOf];omega
   ·have g0:((r:Int) == 0)=false:=by simpa using h0
    obtain⟨w1,rfl⟩:∃w1,w1=wr:=⟨_,rfl⟩
    obtain⟨V1,rfl⟩:∃V1,V1=V:=⟨_,rfl⟩
    have hSp:Hid (SB B V1 V1.length q r (j+1)∧q<V1.length∧V1.length=q+1):=hide ⟨hS.out.1,by omega,by omega⟩
    have hv1:=hv
    have hm1:=hm
    clear hl hnq hr8 hVl hs hl1 h0 hS hv hm
    obtain⟨gS,gq,gl⟩:=hSp.out
    rcases hv1.blk with⟨_,hnil⟩|⟨g,cap,rest,rfl,hb,hg,hcap,hmx⟩
    ·rw[hnil]at gq;simp at gq
    have hcq:w1.cell? ⟨g,q,none⟩=some (u64 (nth V1 q)):=by rw[hg.cell,List.getElem?_append_left (by simpa using gq),map_get gq]
    have hfq:=hg.frozen q
    have hcb:w1.cell? ⟨b,o+j,none⟩=some (u8 (nth B j)):=by
     rw[←hcell]
     exact World.cell?_of_block (w:=w) (hm1.block b (block_lt_of_cell hcell) (by simp))
    have ebt:IntKind.u64.wrap (nth B j:Int)=(nth B j:Int):=by have:=hB j;exact u64_wrap_id _ (by omega) (by omega)
    have hcur:nth V1 q<256^r:=by rw[gS.cur];exact bseg_lt hB _ _
    have hor:=byte_or r HL.out.2.2.2 HL.out.2.1 hcur (hB j)
    rw[show s=min s 64 from(Nat.min_eq_left (by have:=HL.out;omega)).symm]at hor
    have hS2:=gS.byte hB gq HL.out.2.1
    obtain⟨nw,hnw⟩:∃nw,nw=nth V1 q+nth B j*2^(8*r):=⟨_,rfl⟩
    rw[←hnw]at hor hS2
    have hown:=Own.put hb hg hcap hmx q nw gq
    have hmod:Mod [] w (w1.setCell ⟨g,q,none⟩ (.int .u64 (nw:Int))):=hm1.setCell _ _ (by simp;omega)
    have hqi:(q:Int)<(V1.length:Int):=by omega
    have hfin:Hid (∃q' r',SB B (V1.set q nw) (V1.set q nw).length q' r' j∧n+1=8*q'+r'∧r'<8∧(V1.set q nw).length=(n+1+7)/8):=by
     have h1:=HL.out
     have hle:(V1.set q nw).length=V1.length:=by simp
     rw[←hle]at hS2
     rcases Nat.lt_or_ge (r+1) 8 with h8|h8
     ·exact hide ⟨q,r+1,hS2,by omega,h8,by rw[List.length_set];omega⟩
     ·have hr7:r+1=8:=by omega
      rw[hr7]at hS2
      exact hide ⟨q+1,0,hS2.roll,by omega,by omega,by rw[List.length_set];omega⟩
    obtain⟨q',r',hfin⟩:=hfin.out
    have HF:=hide hfin
    have HO:=hide hown
    clear hfin hown hnw hcur hS2 gS gl gq hSp hv1 hcap
    go_wp2_with fail
    go_region_with (fail)
    all_goals
     go_wp2_with fail
     go_roundw
     case rel=>exact⟨n+1,q',r',j,_,_,by omega,by go_num,rfl,by first|exact hmod|exact hmod.drew|exact hmod.drewN _,HO.out.drew,HF⟩
     case measure=>simp[intOf];omega
  ·obtain rfl:n=B.length:=by omega
   have hd:=hS.out.1
   have hl:=hd.left
   have hr8:=hS.out.2.1
   obtain rfl:jn=0:=by omega
   have hdone:=hide hd.done
   have hVl:=hS.out.2.2.2
   clear hd hl hr8 hS
   go_wp2_with fail
   refine(c_Of vv V _ hv.slice hdone.out.2.1 (by omega)).mono ?_
   rintro e w2 ⟨v2,L2,rfl,m2,hs2,hc2,hv2,hl2⟩
   have m12:Mod [] w w2:=Mod.trans (U:=[]) hm m2 (by simp) (by simp)
   have HV:=hide hv2
   have HL2:=hide (show L2.length≤1000000 by omega)
   clear hv2 hl2 hVl
   go_wp2_with fail
   go_ret
   exact⟨v2,L2,rfl,m12,hs2,hc2,HV.out.trans hdone.out.2.2,HL2.out⟩
theorem make_int(n c:Nat)(hnc:n≤c)(hc:c≤17000000)(w:World) :
 (Instr.makeSlice 25 (.int .i64 n) (.int .i64 c)).run Tryz.prog w=.ok (sl w.heap.size 0 n c) (w.alloc (.cells ((List.replicate c 0).map i64).toArray 3)):=by
 rw[run_make_row (z:=.int .i64 0) rfl Tryz.underlying25 info_int (by omega) n c hnc hc w]
 simp[i64]
theorem valS_replicate0(n:Nat):valS (List.replicate n 0)=0:=by
 induction n with
 |zero=>rfl
 |succ n ih=>simp[List.replicate_succ,valS,ih]
theorem valS_set{V:List Nat}{k v:Nat}(h:k<V.length):valS (V.set k v)+65536^k*nth V k=valS V+65536^k*v:=by
 have e1:=valS_split V (k+1) (by omega)
 have e2:=valS_split (V.set k v) (k+1) (by simp;omega)
 rw[valS_take_succ h]at e1
 rw[valS_take_succ (by simpa using h),take_set_ge (Nat.le_refl _),nth_set_same h,List.drop_set_of_lt (by omega)]at e2
 omega
theorem Digits.set{L:List Nat}(h:Digits L)(i:Nat){v:Nat}(hv:v<65536):Digits (L.set i v):=by
 intro j
 by_cases hij:i=j
 ·subst hij
  by_cases hl:i<L.length
  ·rw[nth_set_same hl];exact hv
  ·rw[nth_ge (by simp;omega)];omega
 ·rw[nth_set_ne hij];exact h j
theorem Digits.zeros(n:Nat):Digits (List.replicate n 0):=fun i=>by rw[nth_replicate0];omega
def bitL(i:Nat):List Nat:=(List.replicate (i/16+1) 0).set (i/16) (2^(i%16))
theorem bitL_val(i:Nat):valS (bitL i)=2^i:=by
 have h:=valS_set (V:=List.replicate (i/16+1) 0) (k:=i/16) (v:=2^(i%16)) (by simp)
 rw[nth_replicate0,valS_replicate0]at h
 unfold bitL
 rw[Nat.mul_zero,Nat.add_zero,Nat.zero_add]at h
 rw[h,show(65536:Nat)=2^16 by rfl,←Nat.pow_mul,←Nat.pow_add,Nat.div_add_mod]
theorem bitL_length(i:Nat):(bitL i).length=i/16+1:=by simp[bitL]
theorem pow16(i:Nat):2^(i%16)<65536:=by
 have:2^(i%16)<2^16:=Nat.pow_lt_pow_right (by omega) (Nat.mod_lt _ (by omega))
 exact this
theorem bitL_canon(i:Nat):Canon (bitL i):=by
 refine⟨(Digits.zeros _).set _ (pow16 i),fun _=>?_⟩
 rw[bitL_length]
 unfold bitL
 rw[Nat.add_sub_cancel,nth_set_same (by simp)]
 have:=Nat.pow_pos (n:=i%16) (show 0<2 by omega)
 omega
theorem made_int(n:Nat)(hn:n≤17000000)(w:World):∃g wa,(Instr.makeSlice 25 (.int .i64 n) (.int .i64 n)).run Tryz.prog w=.ok (sl g 0 n n) wa∧Mod [] w wa∧w.heap.size≤g ∧
 Blk wa g 3 ((List.replicate n 0).map i64):=
 ⟨w.heap.size,_,make_int n n (Nat.le_refl _) hn w,(Mod.refl _ _).alloc _,Nat.le_refl _,Blk.new w _ _⟩
set_option maxRecDepth 100000 in
theorem c_Bit(i:Nat)(hi:i≤100000)(w:World):Calls Tryz.prog 30 #[i64 i] w fun e w'=>∃v,e=.returned v∧Mod [] w w'∧Own i64 3 w' w.heap.size v (bitL i):=by
 obtain⟨q,hq⟩:∃q,q=i/16:=⟨_,rfl⟩
 obtain⟨n,hn⟩:∃n,n=q+1:=⟨_,rfl⟩
 obtain⟨r,hr⟩:∃r,r=i%16:=⟨_,rfl⟩
 have e1:(i:Int)/16=(q:Int):=by omega
 have e2:(q:Int)+1=(n:Int):=by omega
 have e3:(i:Int)%16=(r:Int):=by omega
 obtain⟨g,wa,hmk,ma,hg,hba⟩:=made_int n (by omega) w
 have hb0:Blk wa g 3 ((List.replicate n 0).map i64++[]):=by rw[List.append_nil];exact hba
 obtain⟨u,hu⟩:∃u:Nat,u=2^r:=⟨_,rfl⟩
 have hown:=Own.put hg hb0 (cap:=n) (by simp) (by simp[maxLen];omega) q u (by simp;omega)
 rw[show(List.replicate n 0).set q u=bitL i by unfold bitL;rw[hn,hq,hu,hr],List.length_replicate]at hown
 have hqn:(q:Int)<(n:Int):=by omega
 have hcq:wa.cell? ⟨g,q,none⟩=some (i64 0):=by
  rw[hb0.cell,List.getElem?_append_left (by simp;omega),map_get (by simp;omega),nth_replicate0]
 have hfq:=hb0.frozen q
 have hm:Mod [] w (wa.setCell ⟨g,q,none⟩ (.int .i64 (u:Int))):=ma.setCell _ _ (by simp;omega)
 have H:=hide hown
 have hq2:q≤10000:=by omega
 have hr2:r<16:=by omega
 have hu2:u<65536:=by rw[hu,hr];exact pow16 i
 have e4:(2:Int)^r=(u:Int):=by rw[hu,Int.natCast_pow];rfl
 clear hown hq hn hr hi hb0 hba ma hu
 go_enter Tryz.func30,Tryz.ntmps30
 go_wp2_with fail
 go_ret
 exact⟨_,rfl,hm,H.out⟩
theorem valS_take_any(L:List Nat)(i:Nat):valS (L.take (i+1))=valS (L.take i)+65536^i*nth L i:=by
 rcases Nat.lt_or_ge i L.length with h|h
 ·exact valS_take_succ h
 ·rw[List.take_of_length_le (by omega),List.take_of_length_le h,nth_ge h,Nat.mul_zero,Nat.add_zero]
theorem valS_push(L:List Nat)(u:Nat):valS (L++[u])=valS L+65536^L.length*u:=by rw[valS_append];simp[valS]
structure AddAt(A B D:List Nat)(i c:Nat):Prop where
 len:D.length=i
 digits:Digits D
 carry:c≤1
 val:valS D+65536^i*c=valS (A.take i)+valS (B.take i)
theorem AddAt.next{A B D:List Nat}{i c:Nat}(h:AddAt A B D i c)(hA:Digits A)(hB:Digits B) :
 AddAt A B (D++[(c+nth A i+nth B i)%65536]) (i+1) ((c+nth A i+nth B i)/65536):=by
 have a:=hA i
 have b:=hB i
 have hc:=h.carry
 refine⟨by simp[h.len],h.digits.push (Nat.mod_lt _ (by omega)),by omega,?_⟩
 have h1:=h.val
 have h2:c+nth A i+nth B i=(c+nth A i+nth B i)%65536+65536*((c+nth A i+nth B i)/65536):=by omega
 rw[valS_push,h.len,valS_take_any,valS_take_any,Nat.pow_succ]
 generalize (c+nth A i+nth B i)%65536=u at h2 ⊢
 generalize (c+nth A i+nth B i)/65536=d at h2 ⊢
 generalize 65536^i=p at h1 ⊢
 grind
set_option maxRecDepth 100000 in
theorem c_sAdd(va vb:Value)(A B:List Nat)(w:World)(ha:SliceK i64 w va A)(hb:SliceK i64 w vb B)(dA:Digits A)(dB:Digits B)(lA:A.length≤100000)(lB:B.length≤100000) :
 Calls Tryz.prog 33 #[va,vb] w fun e w'=>∃v L,e=.returned v∧Mod [] w w'∧SliceK i64 w' v L∧Canon L∧valS L=valS A+valS B∧L.length≤max A.length B.length+1:=by
 obtain⟨aa,ca,rfl⟩:=ha.lit
 obtain⟨ab,cb,rfl⟩:=hb.lit
 have hown0:Own i64 3 (w.alloc (.cells #[] 3)) w.heap.size (sl w.heap.size 0 0 0) []:=Own.ofBlk (rest:=[]) (Nat.le_refl _) (Blk.new w _ []) rfl (by simp[maxLen])
 go_enter Tryz.func33,Tryz.ntmps33
 go_wp2_with fail
 go_loopw [5,6,7] (fun v c i wr=>∃(c' i':Nat) (D:List Nat) (vv:Value),vv=v∧c=i64 c'∧i=i64 i'∧i'≤max A.length B.length∧Mod [] w wr∧Own i64 3 wr w.heap.size vv D∧Hid (AddAt A B D i' c')) (fun _ _ i _=>max A.length B.length-(intOf i).toNat)
 case atStart=>exact⟨0,0,[],_,rfl,rfl,rfl,by omega,(Mod.refl _ _).alloc _,hown0,hide ⟨rfl,fun i=>by rw[nth_ge (by simp)];omega,by omega,by simp[valS]⟩⟩
 case round=>
  obtain⟨c,i,D,vv,rfl,rfl,rfl,hi,hm,hv,hS⟩:=hrel
  have hcc:=hS.out.carry
  have hxa:=dA i
  have hxb:=dB i
  have hlen:D.length<900000:=by have:=hS.out.len;omega
  obtain⟨x,hx⟩:∃x,x=nth A i:=⟨_,rfl⟩
  obtain⟨y,hy⟩:∃y,y=nth B i:=⟨_,rfl⟩
  have hS2:=hS.out.next dA dB
  rw[←hx,←hy]at hS2
  obtain⟨s1,hs1⟩:∃s1,s1=c+x:=⟨_,rfl⟩
  obtain⟨s,hs⟩:∃s,s=s1+y:=⟨_,rfl⟩
  rw[←hs1,←hs]at hS2
  obtain⟨u,hu⟩:∃u,u=s%65536:=⟨_,rfl⟩
  obtain⟨d,hd⟩:∃d,d=s/65536:=⟨_,rfl⟩
  rw[←hu,←hd]at hS2
  have HS2:=hide hS2
  have e1:(c:Int)+(x:Int)=(s1:Int):=by omega
  have e2:(s1:Int)+(y:Int)=(s:Int):=by omega
  have e3:(s:Int)%65536=(u:Int):=by omega
  have e4:(s:Int)/65536=(d:Int):=by omega
  have b1:s≤200000:=by omega
  have b2:s1≤200000:=by omega
  have b3:d≤2:=by omega
  have b4:c≤1:=hcc
  have hma:Mod [] w (wr.alloc (.cells #[.int .i64 (u:Int)] 3)):=hm.alloc _
  have hva:Own i64 3 (wr.alloc (.cells #[.int .i64 (u:Int)] 3)) w.heap.size vv D:=hv.mod ((Mod.refl [] _).alloc _) (by simp)
  have hca:(wr.alloc (.cells #[.int .i64 (u:Int)] 3)).cell? ⟨wr.heap.size,0,none⟩=some (i64 u):=blk_cell0 (Blk.new wr 3 [i64 u])
  clear hS2 hu hd
  by_cases h1:i<A.length
  ·obtain⟨b1',o1,rfl,_,hcA⟩:=(ha.mod hm (by simp)).at (by omega)
   have hr1:=hcA i h1
   rw[←hx]at hr1
   by_cases h2:i<B.length
   ·obtain⟨b2',o2,rfl,_,hcB⟩:=(hb.mod hm (by simp)).at (by omega)
    have hr2:=hcB i h2
    rw[←hy]at hr2
    clear hs hs1 hx hy hxa hxb hcc hcA hcB
    go_wp2_with (at_builtin;refine wpl_push rfl _ _ _ rfl vv wr.heap.size 1 rfl rfl i64 rfl Tryz.underlying25 info_int (by omega) (fun _=>rfl) hma hva hca hlen ?_)
    intro v' w' hv' hm'
    go_wp2_with fail
    go_roundw
    case rel=>exact⟨d,i+1,_,v',rfl,by go_num,by go_num,by omega,hm',hv',HS2⟩
    case measure=>simp[intOf];omega
   ·have hy0:y=0:=by rw[hy,nth_ge (by omega)]
    obtain rfl:s=s1:=by omega
    clear hs hs1 hx hy hxa hxb hcc hcA hy0 e2
    go_wp2_with (at_builtin;refine wpl_push rfl _ _ _ rfl vv wr.heap.size 1 rfl rfl i64 rfl Tryz.underlying25 info_int (by omega) (fun _=>rfl) hma hva hca hlen ?_)
    intro v' w' hv' hm'
    go_wp2_with fail
    go_roundw
    case rel=>exact⟨d,i+1,_,v',rfl,by go_num,by go_num,by omega,hm',hv',HS2⟩
    case measure=>simp[intOf];omega
  ·by_cases h2:i<B.length
   ·obtain⟨b2',o2,rfl,_,hcB⟩:=(hb.mod hm (by simp)).at (by omega)
    have hr2:=hcB i h2
    rw[←hy]at hr2
    have hx0:x=0:=by rw[hx,nth_ge (by omega)]
    obtain rfl:s1=c:=by omega
    clear hs hs1 hx hy hxa hxb hcc hcB hx0 e1
    go_wp2_with (at_builtin;refine wpl_push rfl _ _ _ rfl vv wr.heap.size 1 rfl rfl i64 rfl Tryz.underlying25 info_int (by omega) (fun _=>rfl) hma hva hca hlen ?_)
    intro v' w' hv' hm'
    go_wp2_with fail
    go_roundw
    case rel=>exact⟨d,i+1,_,v',rfl,by go_num,by go_num,by omega,hm',hv',HS2⟩
    case measure=>simp[intOf];omega
   ·obtain rfl:i=max A.length B.length:=by omega
    have hfin:Hid (Digits (D++[c])∧valS (D++[c])=valS A+valS B∧(D++[c]).length=max A.length B.length+1):=by
     refine hide ⟨hS.out.digits.push (by omega),?_,by simp[hS.out.len]⟩
     rw[valS_push,hS.out.len,hS.out.val,List.take_of_length_le (by omega),List.take_of_length_le (by omega)]
    have hma:Mod [] w (wr.alloc (.cells #[.int .i64 (c:Int)] 3)):=hm.alloc _
    have hva:Own i64 3 (wr.alloc (.cells #[.int .i64 (c:Int)] 3)) w.heap.size vv D:=hv.mod ((Mod.refl [] _).alloc _) (by simp)
    have hca:(wr.alloc (.cells #[.int .i64 (c:Int)] 3)).cell? ⟨wr.heap.size,0,none⟩=some (i64 c):=blk_cell0 (Blk.new wr 3 [i64 c])
    clear hs hs1 hx hy hxa hxb hcc e1 e2 e3 e4
    have HI:=hide hi
    clear hi
    obtain⟨mx,hmx⟩:∃mx,mx=max A.length B.length:=⟨_,rfl⟩
    rw[←hmx]at hfin HI h1 h2 ⊢
    have HMX:=hide hmx
    clear hmx
    go_wp2_with (at_builtin;refine wpl_push rfl _ _ _ rfl vv wr.heap.size 1 rfl rfl i64 rfl Tryz.underlying25 info_int (by omega) (fun _=>rfl) hma hva hca hlen ?_)
    intro v' w' hv' hm'
    go_wp2_with fail
    refine(c_trimS v' _ _ hv'.slice hfin.out.1 (by have:=hfin.out.2.2;simp at this ⊢;omega)).mono ?_
    rintro e w2 ⟨v2,L2,rfl,m2,hs2,hc2,hv2,hl2⟩
    have m12:Mod [] w w2:=Mod.trans (U:=[]) hm' m2 (by simp) (by simp)
    have HV:=hide (hv2.trans hfin.out.2.1)
    have HL:=hide (Nat.le_trans hl2 (Nat.le_of_eq hfin.out.2.2))
    clear hv2 hl2
    go_wp2_with fail
    go_ret
    exact⟨v2,L2,rfl,m12,hs2,hc2,HV.out,by rw[←HMX.out];exact HL.out⟩
end Go.Proofs.YtfgmnbmnpihjdaaGreatDoor
