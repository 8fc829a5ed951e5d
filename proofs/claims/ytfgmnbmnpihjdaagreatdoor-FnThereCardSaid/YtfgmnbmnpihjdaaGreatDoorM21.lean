/- Lemmas of mine for the walk and its plain laws: SpecN SpecO SpecP SpecQ SpecR Knuth KnuthB KnuthC SpecS KnuthD -/
import Derived.Test.YtfgmnbmnpihjdaaGreatDoorM20
import Derived.KernelRfl
set_option linter.all false
set_option maxHeartbeats 4000000
namespace Go.Proofs.YtfgmnbmnpihjdaaGreatDoor
open Go.RowKit
theorem valS_drop(A:List Nat)(i:Nat):valS (A.drop i)=nth A i+65536*valS (A.drop (i+1)):=by
 rcases Nat.lt_or_ge i A.length with h|h
 ·rw[List.drop_eq_getElem_cons h,valS,nth_eq A i h]
 ·rw[List.drop_eq_nil_of_le h,List.drop_eq_nil_of_le (by omega),nth_ge h];rfl
theorem valS_div{A:List Nat}(h:Digits A)(i:Nat):valS A/65536^i=valS (A.drop i):=by
 rcases Nat.lt_or_ge A.length i with hi|hi
 ·have h1:=valS_lt h
  have h2:65536^A.length≤65536^i:=Nat.pow_le_pow_right (by omega) (by omega)
  rw[Nat.div_eq_of_lt (by omega),List.drop_eq_nil_of_le (by omega)];rfl
 ·have h1:=valS_split A i hi
  have h2:=valS_lt (h.take i)
  rw[List.length_take,Nat.min_eq_left hi]at h2
  rw[h1,Nat.add_mul_div_left _ _ (Nat.pow_pos (by omega)),Nat.div_eq_of_lt h2,Nat.zero_add]
theorem shr_digit{A:List Nat}(h:Digits A){n:Nat}(hn:n<16)(i:Nat):valS A/2^n/65536^i%65536=(nth A i+65536*nth A (i+1))/2^n%65536:=by
 rw[Nat.div_div_eq_div_mul,Nat.mul_comm,←Nat.div_div_eq_div_mul,valS_div h,valS_drop,valS_drop A (i+1)]
 generalize nth A i=x
 generalize nth A (i+1)=y
 generalize valS (A.drop (i+1+1))=z
 have e:x+65536*(y+65536*z)=(x+65536*y)+2^n*(65536*(2^(16-n)*z)):=by
  have e1:(65536:Nat)=2^n*2^(16-n):=by rw[←Nat.pow_add,show n+(16-n)=16 by omega]
  have e2:65536*(65536*z)=2^n*(65536*(2^(16-n)*z)):=by
   conv=>lhs;rw[show 65536*(65536*z)=(2^n*2^(16-n))*(65536*z)by rw[←e1]]
   grind
  omega
 rw[e,Nat.add_mul_div_left _ _ (Nat.pow_pos (by omega))]
 omega
structure ShrAt(V:Nat)(D:List Nat)(n i:Nat):Prop where
 len:D.length=i
 digits:Digits D
 val:valS D=V/2^n%65536^i
theorem ShrAt.next{A D:List Nat}{n i:Nat}(h:ShrAt (valS A) D n i)(hA:Digits A)(hn:n<16):ShrAt (valS A) (D++[(nth A i+65536*nth A (i+1))/2^n%65536]) n (i+1):=by
 refine⟨by simp[h.len],h.digits.push (Nat.mod_lt _ (by omega)),?_⟩
 rw[valS_push,h.val,h.len,←shr_digit hA hn,Nat.pow_succ,Nat.mod_mul]
theorem ShrAt.done{A D:List Nat}{n:Nat}(h:ShrAt (valS A) D n A.length)(hA:Digits A):valS D=valS A/2^n:=by
 rw[h.val,Nat.mod_eq_of_lt]
 exact Nat.lt_of_le_of_lt (Nat.div_le_self _ _) (valS_lt hA)
set_option maxRecDepth 100000 in
theorem c_Shr(va:Value)(A:List Nat)(n:Nat)(w:World)(ha:SliceK i64 w va A)(hd:Digits A)(hn:n<16)(lA:A.length≤100000) :
 Calls Tryz.prog 69 #[va,i64 n] w fun e w'=>∃v L,e=.returned v∧Mod [] w w'∧SliceK i64 w' v L∧Canon L∧valS L=valS A/2^n∧L.length≤A.length:=by
 obtain⟨a,c,rfl⟩:=ha.lit
 have hown0:Own i64 3 (w.alloc (.cells #[] 3)) w.heap.size (sl w.heap.size 0 0 0) []:=Own.ofBlk (rest:=[]) (Nat.le_refl _) (Blk.new w _ []) rfl (by simp[maxLen])
 have e0:(n:Int)/16=((0:Nat):Int):=by omega
 have e2:(n:Int)%16=(n:Int):=by omega
 go_enter Tryz.func69,Tryz.ntmps69
 go_wp2_with fail
 go_loopw [5,6] (fun v i wr=>∃(i':Nat) (D:List Nat) (vv:Value),vv=v∧i=i64 i'∧i'≤A.length∧Mod [] w wr∧Own i64 3 wr w.heap.size vv D∧Hid (ShrAt (valS A) D n i')) (fun _ i _=>A.length-(intOf i).toNat)
 case atStart=>exact⟨0,[],_,rfl,by first|rfl|go_num,by omega,(Mod.refl _ _).alloc _,hown0,hide ⟨rfl,fun i=>by rw[nth_ge (by simp)];omega,by simp[valS,Nat.mod_one]⟩⟩
 case round=>
  obtain⟨i,D,vv,rfl,rfl,hi,hm,hv,hS⟩:=hrel
  have hlen:D.length<900000:=by have:=hS.out.len;omega
  by_cases h1:i<A.length
  ·obtain⟨b,o,rfl,_,hcA⟩:=(ha.mod hm (by simp)).at (by omega)
   have hr1:=hcA i h1
   have hS2:=hS.out.next hd hn
   obtain⟨x,hx⟩:∃x,x=nth A i:=⟨_,rfl⟩
   obtain⟨y,hy⟩:∃y,y=nth A (i+1):=⟨_,rfl⟩
   have hxb:x<65536:=by rw[hx];exact hd i
   have hyb:y<65536:=by rw[hy];exact hd (i+1)
   rw[←hx]at hr1
   rw[←hx,←hy]at hS2
   obtain⟨s,hs⟩:∃s,s=x+65536*y:=⟨_,rfl⟩
   rw[←hs]at hS2
   obtain⟨z,hz⟩:∃z,z=s/2^n:=⟨_,rfl⟩
   rw[←hz]at hS2
   obtain⟨u,hu⟩:∃u,u=z%65536:=⟨_,rfl⟩
   rw[←hu]at hS2
   have HS2:=hide hS2
   have hsb:s≤4294967295:=by omega
   have hzb:z≤s:=by rw[hz];exact Nat.div_le_self _ _
   have e3:(s:Int)/2^n=(z:Int):=by rw[hz,Int.natCast_ediv,Int.natCast_pow];rfl
   have e4:(z:Int)%65536=(u:Int):=by omega
   have hma:Mod [] w (wr.alloc (.cells #[.int .i64 (u:Int)] 3)):=hm.alloc _
   have hva:Own i64 3 (wr.alloc (.cells #[.int .i64 (u:Int)] 3)) w.heap.size vv D:=hv.mod ((Mod.refl [] _).alloc _) (by simp)
   have hca:(wr.alloc (.cells #[.int .i64 (u:Int)] 3)).cell? ⟨wr.heap.size,0,none⟩=some (i64 u):=blk_cell0 (Blk.new wr 3 [i64 u])
   by_cases h2:i+1<A.length
   ·have hr2:=hcA (i+1) h2
    rw[←hy]at hr2
    have hr3:=hr2
    rw[←Nat.add_assoc]at hr3
    have e5:(x:Int)+65536*(y:Int)=(s:Int):=by omega
    have h2':(i:Int)+1<(A.length:Int):=by omega
    clear hS2 hu hz hs hx hy hcA hS
    go_wp2_with (at_builtin;refine wpl_push rfl _ _ _ rfl vv wr.heap.size 1 rfl rfl i64 rfl Tryz.underlying25 info_int (by omega) (fun _=>rfl) hma hva hca hlen ?_)
    intro v' w' hv' hm'
    go_wp2_with fail
    go_roundw
    case rel=>exact⟨i+1,_,v',rfl,by go_num,by omega,hm',hv',HS2⟩
    case measure=>simp[intOf];omega
   ·have hy0:y=0:=by rw[hy,nth_ge (by omega)]
    have h2':¬(i:Int)+1<(A.length:Int):=by omega
    obtain rfl:s=x:=by omega
    clear hS2 hu hz hs hx hy hcA hS
    go_wp2_with (at_builtin;refine wpl_push rfl _ _ _ rfl vv wr.heap.size 1 rfl rfl i64 rfl Tryz.underlying25 info_int (by omega) (fun _=>rfl) hma hva hca hlen ?_)
    intro v' w' hv' hm'
    go_wp2_with fail
    go_roundw
    case rel=>exact⟨i+1,_,v',rfl,by go_num,by omega,hm',hv',HS2⟩
    case measure=>simp[intOf];omega
  ·obtain rfl:i=A.length:=by omega
   have hdone:=hide (hS.out.done hd)
   have hdD:=hS.out.digits
   have hlD:=hide hS.out.len
   clear hS
   go_wp2_with fail
   refine(c_trimS vv D _ hv.slice hdD (by have:=hlD.out;omega)).mono ?_
   rintro e w2 ⟨v2,L2,rfl,m2,hs2,hc2,hv2,hl2⟩
   have m12:Mod [] w w2:=Mod.trans (U:=[]) hm m2 (by simp) (by simp)
   have HV:=hide (hv2.trans hdone.out)
   have HL:=hide (Nat.le_trans hl2 (Nat.le_of_eq hlD.out))
   clear hv2 hl2
   go_wp2_with fail
   go_ret
   exact⟨v2,L2,rfl,m12,hs2,hc2,HV.out,HL.out⟩
structure ByAt(A O:List Nat)(d j r:Nat):Prop where
 len:O.length=A.length
 digits:Digits O
 rest:r<d
 val:valS (A.drop j)=d*valS (O.drop j)+r
theorem ByAt.start{A:List Nat}{d:Nat}(hd:0<d):ByAt A (List.replicate A.length 0) d A.length 0:=
 ⟨by simp,Digits.zeros _,hd,by rw[List.drop_eq_nil_of_le (Nat.le_refl _),List.drop_eq_nil_of_le (by simp)];simp[valS]⟩
theorem ByAt.next{A O:List Nat}{d j r:Nat}(h:ByAt A O d (j+1) r)(hA:Digits A)(hj:j<A.length)(hd:d<65536) :
 ByAt A (O.set j ((r*65536+nth A j)/d)) d j ((r*65536+nth A j)%d):=by
 have hr:=h.rest
 have hl:=h.len
 have ha:=hA j
 have hq:(r*65536+nth A j)/d<65536:=by
  rw[Nat.div_lt_iff_lt_mul (by omega)]
  have:(r+1)*65536≤d*65536:=Nat.mul_le_mul_right _ hr
  omega
 refine⟨by simp[hl],h.digits.set _ hq,Nat.mod_lt _ (by omega),?_⟩
 have h1:=h.val
 have e1:=valS_drop A j
 have e2:=valS_drop (O.set j ((r*65536+nth A j)/d)) j
 have e4:(O.set j ((r*65536+nth A j)/d)).drop (j+1)=O.drop (j+1):=List.drop_set_of_lt (by omega)
 rw[nth_set_same (by omega),e4]at e2
 clear e4
 have e3:=Nat.div_add_mod (r*65536+nth A j) d
 rw[e1,e2,h1]
 generalize (r*65536+nth A j)/d=q at *
 generalize (r*65536+nth A j)%d=s at *
 generalize valS (O.drop (j+1))=o at *
 generalize nth A j=x at *
 clear e1 e2 h1 hq hl
 grind
theorem ByAt.done{A O:List Nat}{d r:Nat}(h:ByAt A O d 0 r):valS O=valS A/d∧r=valS A%d:=by
 have h1:=h.val
 have hr:=h.rest
 rw[List.drop_zero,List.drop_zero]at h1
 rw[h1,Nat.mul_add_div (by omega),Nat.mul_add_mod,Nat.div_eq_of_lt hr,Nat.mod_eq_of_lt hr]
 exact⟨rfl,rfl⟩
set_option maxRecDepth 100000 in
theorem c_byDigit(va:Value)(A:List Nat)(d:Nat)(w:World)(ha:SliceK i64 w va A)(hA:Digits A)(hd0:0<d)(hd:d<65536)(lA:A.length≤100000) :
 Calls Tryz.prog 65 #[va,i64 d] w fun e w'=>∃v L,e=.returned (.tuple #[v,i64 (valS A%d)])∧Mod [] w w'∧SliceK i64 w' v L∧Canon L∧valS L=valS A/d∧L.length≤A.length:=by
 obtain⟨a,c,rfl⟩:=ha.lit
 obtain⟨n,hn⟩:∃n,n=A.length:=⟨_,rfl⟩
 obtain⟨g,wa,hmk,ma,hg,hba⟩:=made_int n (by omega) w
 rw[hn]at hmk hba
 have hs0:=hide (ByAt.start (A:=A) hd0)
 clear hn
 go_enter Tryz.func65,Tryz.ntmps65
 go_wp2_with fail
 go_loopw [7,8] (fun r i wr=>∃(r' j:Nat) (O:List Nat),r=i64 r'∧i=.int .i64 ((j:Int)-1)∧j≤A.length∧r'<65536∧Mod [] w wr∧Blk wr g 3 (O.map i64)∧Hid (ByAt A O d j r')) (fun _ i _=>(intOf i+1).toNat)
 case atStart=>exact⟨0,A.length,_,rfl,by first|rfl|go_num,Nat.le_refl _,by omega,ma,hba,hs0⟩
 case round=>
  obtain⟨r,j,O,rfl,rfl,hj,hrb,hm,hO,hS⟩:=hrel
  cases j with
  |zero=>
   have hdone:=hide hS.out.done
   have hOd:=hS.out.digits
   have hOl:=hide hS.out.len
   have hsl:SliceK i64 wr (sl g 0 A.length A.length) O:=by
    refine .inr ⟨g,0,A.length,by rw[hOl.out],by rw[hOl.out];omega,fun j hj=>?_⟩
    rw[Nat.zero_add]
    exact hO.at j hj
   clear hS
   go_wp2_with fail
   refine(c_trimS _ O _ hsl hOd (by have:=hOl.out;omega)).mono ?_
   rintro e w2 ⟨v2,L2,rfl,m2,hs2,hc2,hv2,hl2⟩
   have m12:Mod [] w w2:=Mod.trans (U:=[]) hm m2 (by simp) (by simp)
   have HV:=hide (hv2.trans hdone.out.1)
   have HL:=hide (Nat.le_trans hl2 (Nat.le_of_eq hOl.out))
   clear hv2 hl2
   go_wp2_with fail
   go_ret2
   refine⟨v2,L2,?_,m12,hs2,hc2,HV.out,HL.out⟩
   rw[←hdone.out.2]
   rfl
  |succ j=>
   obtain⟨b,o,rfl,_,hcA⟩:=(ha.mod hm (by simp)).at (by omega)
   have hr1:=hcA j (by omega)
   have hOl:=hS.out.len
   have hro:=hO.at j (by omega)
   have hfo:=hO.frozen j
   have hS2:=hS.out.next hA (by omega) hd
   obtain⟨x,hx⟩:∃x,x=nth A j:=⟨_,rfl⟩
   have hxb:x<65536:=by rw[hx];exact hA j
   rw[←hx]at hr1 hS2
   obtain⟨s,hs⟩:∃s,s=r*65536+x:=⟨_,rfl⟩
   rw[←hs]at hS2
   obtain⟨q,hq⟩:∃q,q=s/d:=⟨_,rfl⟩
   obtain⟨t,ht⟩:∃t,t=s%d:=⟨_,rfl⟩
   rw[←hq,←ht]at hS2
   have HS2:=hide hS2
   have e0:Hid (((j+1:Nat):Int)-1=(j:Int)):=hide (by omega)
   have e1:(r:Int)*65536+(x:Int)=(s:Int):=by omega
   have hsb:s≤4294967295:=by omega
   have hqs:q≤s:=by rw[hq];exact Nat.div_le_self _ _
   have htd:t<d:=by rw[ht];exact Nat.mod_lt _ hd0
   have e2:(s:Int)/(d:Int)=(q:Int):=by rw[hq,Int.natCast_ediv]
   have e3:(s:Int)%(d:Int)=(t:Int):=by rw[ht,Int.natCast_emod]
   have e2':(s:Int).tdiv (d:Int)=(q:Int):=by rw[Int.tdiv_eq_ediv_of_nonneg (by omega)];exact e2
   have e3':(s:Int).tmod (d:Int)=(t:Int):=by rw[Int.tmod_eq_emod_of_nonneg (by omega)];exact e3
   have hdn:((d:Int) == 0)=false:=by simp;omega
   have hdn2:¬d=0:=by omega
   have hO2:Blk (wr.setCell ⟨g,j,none⟩ (.int .i64 (q:Int))) g 3 ((O.set j q).map i64):=hO.set j q
   have hm2:Mod [] w (wr.setCell ⟨g,j,none⟩ (.int .i64 (q:Int))):=hm.setCell _ _ (by simp;omega)
   rw[e0.out]
   clear hS2 ht hq hs hx hcA hS hOl
   go_wp2_with fail
   go_roundw
   case rel=>exact⟨t,j,_,by first|rfl|go_num,by go_num,by omega,by omega,hm2,hO2,HS2⟩
   case measure=>simp[intOf]
theorem Blk.atR{w:World}{b T:Nat}{k:Nat→Value}{L:List Nat}{rest:List Value}(h:Blk w b T (L.map k++rest))(i:Nat)(hi:i<L.length) :
 w.cell? ⟨b,i,none⟩=some (k (nth L i)):=by rw[h.cell,List.getElem?_append_left (by simpa using hi),map_get hi]
theorem Blk.setR{w:World}{b T:Nat}{k:Nat→Value}{L:List Nat}{rest:List Value}(h:Blk w b T (L.map k++rest))(i v:Nat)(hi:i<L.length) :
 Blk (w.setCell ⟨b,i,none⟩ (k v)) b T ((L.set i v).map k++rest):=by
 have:=h.setCell i (k v)
 rwa [List.set_append_left _ _ (by simpa using hi),←List.map_set]at this
def segS(U:List Nat)(j:Nat):Nat→Nat
 |0=>0
 |m+1=>segS U j m+65536^m*nth U (j+m)
theorem segS_low{U:List Nat}{j k v:Nat}:∀m,m≤k→segS (U.set (j+k) v) j m=segS U j m:=by
 intro m
 induction m with
 |zero=>intro _;rfl
 |succ m ih=>intro h;simp only[segS];rw[ih (by omega),nth_set_ne (by omega)]
structure TakenAt(U V:List Nat)(h j m:Nat)(U':List Nat)(i p c:Nat):Prop where
 len:U'.length=U.length
 digits:Digits U'
 carry:p<65536
 owed:c≤1
 rest:∀k,¬(j≤k∧k<j+i)→nth U' k=nth U k
 val:segS U' j i+h*valS (V.take i)=segS U j i+65536^i*(p+c)
 fin:V.length<i→p=0
theorem TakenAt.start{U V:List Nat}{h j m:Nat}(hU:Digits U):TakenAt U V h j m U 0 0 0:=⟨rfl,hU,by omega,by omega,fun _ _=>rfl,by simp[segS,valS],fun _=>rfl⟩
theorem TakenAt.next{U V U':List Nat}{h j m i p c u e:Nat}(H:TakenAt U V h j m U' i p c)(hV:Digits V)(hh:h<65536)(hi:j+i<U.length)
 (hu:u<65536) (he:e≤1) (heq:u+(p+h*nth V i)%65536+c=nth U (j+i)+65536*e) :
 TakenAt U V h j m (U'.set (j+i) u) (i+1) ((p+h*nth V i)/65536) e:=by
 have hl:=H.len
 have hp:=H.carry
 have hm:=mul_lt hh (hV i)
 refine⟨by simp[hl],H.digits.set _ hu,by omega,he,fun k hk=>by rw[nth_set_ne (by omega)];exact H.rest k (by omega),?_,fun hf=>by
  rw[nth_ge (by omega),Nat.mul_zero,Nat.add_zero];omega⟩
 have h1:=H.val
 have h2:=Nat.mod_add_div (p+h*nth V i) 65536
 simp only[segS]
 rw[segS_low i (Nat.le_refl _),nth_set_same (by omega),valS_take_any,Nat.pow_succ]
 generalize (p+h*nth V i)%65536=a at *
 generalize (p+h*nth V i)/65536=b at *
 generalize segS U' j i=s1 at *
 generalize segS U j i=s2 at *
 generalize nth U (j+i)=x at *
 generalize nth V i=y at *
 generalize valS (V.take i)=t at *
 generalize 65536^i=q at *
 clear hm hp hl hu he hh
 have h3:q*(u+a+c)=q*(x+65536*e):=by rw[heq]
 have h4:q*(a+65536*b)=q*(p+h*y):=by rw[h2]
 grind
set_option maxRecDepth 100000 in
theorem c_taken(g j m cu h:Nat)(vv:Value)(U V:List Nat)(rest:List Value)(w:World)(hU:Blk w g 3 (U.map i64++rest))(hv:SliceK i64 w vv V)(hvg:Apart vv g)(dU:Digits U)(dV:Digits V)(hh:h<65536)
 (hjm:j+m≤U.length) (lU:U.length≤200000) (lV:V.length≤m) :
 Calls Tryz.prog 67 #[sl g j m cu,vv,i64 h] w fun e w'=>∃U' p c,e=.returned (.bool (decide (c=1)))∧Mod [g] w w'∧Blk w' g 3 (U'.map i64++rest)∧TakenAt U V h j m U' m p c:=by
 obtain⟨av,cv,rfl⟩:=hv.lit
 have hs0:=hide (TakenAt.start (V:=V) (h:=h) (j:=j) (m:=m) dU)
 go_enter Tryz.func67,Tryz.ntmps67
 go_wp2_with fail
 go_loopw [8,7,14] (fun p c i wr=>∃(p' c' i':Nat) (U':List Nat),p=i64 p'∧c=i64 c'∧i=i64 i'∧i'≤m∧Mod [g] w wr∧Blk wr g 3 (U'.map i64++rest)∧Hid (TakenAt U V h j m U' i' p' c')) (fun _ _ i _=>m-(intOf i).toNat)
 case atStart=>exact⟨0,0,0,U,rfl,rfl,rfl,by omega,Mod.refl _ _,hU,hs0⟩
 case round=>
  obtain⟨p,c,i,U',rfl,rfl,rfl,hi,hm,hO,hS⟩:=hrel
  have hpb:=hS.out.carry
  have hcb:=hS.out.owed
  have hOl:=hS.out.len
  by_cases h1:i<m
  ·obtain⟨ji,hji⟩:∃ji,ji=j+i:=⟨_,rfl⟩
   have hro:=hO.atR ji (by omega)
   have hfo:=hO.frozen ji
   have hin:nth U' ji=nth U ji:=hS.out.rest ji (by omega)
   rw[hin]at hro
   obtain⟨x,hx⟩:∃x,x=nth U ji:=⟨_,rfl⟩
   have hxb:x<65536:=by rw[hx];exact dU ji
   rw[←hx]at hro
   obtain⟨y,hy⟩:∃y,y=nth V i:=⟨_,rfl⟩
   have hyb:y<65536:=by rw[hy];exact dV i
   have hmx:=mul_lt hh hyb
   obtain⟨q,hq⟩:∃q,q=h*y:=⟨_,rfl⟩
   obtain⟨s,hs⟩:∃s,s=p+q:=⟨_,rfl⟩
   obtain⟨a,hs1⟩:∃a,a=s%65536:=⟨_,rfl⟩
   obtain⟨b,hb⟩:∃b,b=s/65536:=⟨_,rfl⟩
   obtain⟨z1,hz1⟩:∃z1:Int,z1=(x:Int)-(a:Int):=⟨_,rfl⟩
   obtain⟨z,hz⟩:∃z:Int,z=z1-(c:Int):=⟨_,rfl⟩
   have hnext:∀u e,u<65536→e≤1→u+a+c=x+65536*e→Hid (TakenAt U V h j m (U'.set ji u) (i+1) b e):=by
    intro u e hu he heq
    have:=hS.out.next dV hh (by omega) hu he (by rw[←hy,←hq,←hs,←hs1,←hji,←hx];exact heq)
    rw[←hy,←hq,←hs,←hb,←hji]at this
    exact hide this
   have hput:∀u:Nat,Mod [g] w (wr.setCell ⟨g,ji,none⟩ (.int .i64 (u:Int)))∧Blk (wr.setCell ⟨g,ji,none⟩ (.int .i64 (u:Int))) g 3 ((U'.set ji u).map i64++rest):=
    fun u=>⟨hm.setCell _ _ (by simp),hO.setR ji u (by omega)⟩
   rw[←hq]at hmx
   have e3:(s:Int)/65536=(b:Int):=by omega
   have e4:(s:Int)%65536=(a:Int):=by omega
   have e5:(x:Int)-(a:Int)=z1:=hz1.symm
   have e5':z1-(c:Int)=z:=hz.symm
   have b1:s≤4294967295:=by omega
   have b2:b<65536:=by omega
   have b3:a<65536:=by omega
   have b4 : -65536≤z1:=by omega
   have b5:z1≤65535:=by omega
   have b6 : -65536≤z:=by omega
   have b7:z≤65535:=by omega
   have him:(i:Int)<(m:Int):=by omega
   have hro2:=hro
   rw[hji]at hro2
   have hfo2:=hfo
   rw[hji]at hfo2
   have hib:i≤200000:=by omega
   have hset:∀v,wr.setCell ⟨g,j+i,none⟩ v=wr.setCell ⟨g,ji,none⟩ v:=fun v=>by rw[hji]
   by_cases h2:i<V.length
   ·obtain⟨bv,ov,rfl,_,hcV⟩:=(hv.mod hm (by simpa using hvg)).at (by omega)
    have hr2:=hcV i h2
    rw[←hy]at hr2
    have e1:(h:Int)*(y:Int)=(q:Int):=by rw[hq,Int.natCast_mul]
    have e2:(p:Int)+(q:Int)=(s:Int):=by omega
    clear hcV hOl hq hin
    by_cases hneg:z<0
    ·obtain⟨u,hu⟩:∃u:Nat,(u:Int)=z+65536:=⟨(z+65536).toNat,by omega⟩
     have e6:z+65536=(u:Int):=hu.symm
     have hS2:=hnext u 1 (by omega) (by omega) (by omega)
     obtain⟨hm2,hO2⟩:=hput u
     clear hnext hput hu hz hz1 hx hy hS hs hs1 hb
     go_wp2_with fail
     go_roundw
     case rel=>exact⟨b,1,i+1,_,by first|rfl|go_num,rfl,by go_num,by omega,hm2,hO2,hS2⟩
     case measure=>simp[intOf];omega
    ·obtain⟨u,hu⟩:∃u:Nat,(u:Int)=z:=⟨z.toNat,by omega⟩
     have hS2:=hnext u 0 (by omega) (by omega) (by omega)
     obtain⟨hm2,hO2⟩:=hput u
     rw[hu]at hm2
     have hO3:Blk (wr.setCell ⟨g,ji,none⟩ (.int .i64 z)) g 3 ((U'.set ji u).map i64++rest):=by rw[←hu];exact hO2
     clear hnext hput hu hz hz1 hx hy hS hO2 hs hs1 hb
     go_wp2_with fail
     go_roundw
     case rel=>exact⟨b,0,i+1,_,by first|rfl|go_num,rfl,by go_num,by omega,hm2,hO3,hS2⟩
     case measure=>simp[intOf];omega
   ·have hy0:y=0:=by rw[hy,nth_ge (by omega)]
    obtain rfl:s=p:=by rw[hs,hq,hy0];omega
    clear hOl hq hin hy0
    by_cases hneg:z<0
    ·obtain⟨u,hu⟩:∃u:Nat,(u:Int)=z+65536:=⟨(z+65536).toNat,by omega⟩
     have e6:z+65536=(u:Int):=hu.symm
     have hS2:=hnext u 1 (by omega) (by omega) (by omega)
     obtain⟨hm2,hO2⟩:=hput u
     clear hnext hput hu hz hz1 hx hy hS hs hs1 hb
     go_wp2_with fail
     go_roundw
     case rel=>exact⟨b,1,i+1,_,by first|rfl|go_num,rfl,by go_num,by omega,hm2,hO2,hS2⟩
     case measure=>simp[intOf];omega
    ·obtain⟨u,hu⟩:∃u:Nat,(u:Int)=z:=⟨z.toNat,by omega⟩
     have hS2:=hnext u 0 (by omega) (by omega) (by omega)
     obtain⟨hm2,hO2⟩:=hput u
     rw[hu]at hm2
     have hO3:Blk (wr.setCell ⟨g,ji,none⟩ (.int .i64 z)) g 3 ((U'.set ji u).map i64++rest):=by rw[←hu];exact hO2
     clear hnext hput hu hz hz1 hx hy hS hO2 hs hs1 hb
     go_wp2_with fail
     go_roundw
     case rel=>exact⟨b,0,i+1,_,by first|rfl|go_num,rfl,by go_num,by omega,hm2,hO3,hS2⟩
     case measure=>simp[intOf];omega
  ·obtain rfl:i=m:=by omega
   clear hOl hpb
   go_wp2_with fail
   go_ret
   refine⟨U',p,c,?_,hm,hO,hS.out⟩
   show Ending.returned (.bool (((c:Nat):Int) == 1))=_
   congr 2
   have:c=0∨c=1:=by omega
   rcases this with h|h
   ·rw[h];rfl
   ·rw[h];rfl
structure BackAt(U V:List Nat)(j:Nat)(U':List Nat)(i c:Nat):Prop where
 len:U'.length=U.length
 digits:Digits U'
 carry:c≤1
 rest:∀k,¬(j≤k∧k<j+i)→nth U' k=nth U k
 val:segS U' j i+65536^i*c=segS U j i+valS (V.take i)
theorem BackAt.start{U V:List Nat}{j:Nat}(hU:Digits U):BackAt U V j U 0 0:=⟨rfl,hU,by omega,fun _ _=>rfl,by simp[segS,valS]⟩
theorem BackAt.next{U V U':List Nat}{j i c:Nat}(H:BackAt U V j U' i c)(hU:Digits U)(hV:Digits V)(hi:j+i<U.length) :
 BackAt U V j (U'.set (j+i) ((nth U (j+i)+c+nth V i)%65536)) (i+1) ((nth U (j+i)+c+nth V i)/65536):=by
 have hl:=H.len
 have h5:=hU (j+i)
 have h6:=hV i
 have h7:=H.carry
 refine⟨by simp[hl],H.digits.set _ (Nat.mod_lt _ (by omega)),by omega,fun k hk=>by rw[nth_set_ne (by omega)];exact H.rest k (by omega),?_⟩
 have h1:=H.val
 have h2:=Nat.mod_add_div (nth U (j+i)+c+nth V i) 65536
 simp only[segS]
 rw[segS_low i (Nat.le_refl _),nth_set_same (by omega),valS_take_any,Nat.pow_succ]
 generalize (nth U (j+i)+c+nth V i)%65536=a at *
 generalize (nth U (j+i)+c+nth V i)/65536=b at *
 generalize segS U' j i=s1 at *
 generalize segS U j i=s2 at *
 generalize nth U (j+i)=x at *
 generalize nth V i=y at *
 generalize valS (V.take i)=t at *
 generalize 65536^i=q at *
 clear hl h5 h6 h7
 have h4:q*(a+65536*b)=q*(x+c+y):=by rw[h2]
 grind
set_option maxRecDepth 100000 in
theorem c_back(g j m cu:Nat)(vv:Value)(U V:List Nat)(rest:List Value)(w:World)(hU:Blk w g 3 (U.map i64++rest))(hv:SliceK i64 w vv V)(hvg:Apart vv g)(dU:Digits U)(dV:Digits V)
 (hjm:j+m≤U.length) (lU:U.length≤200000) (lV:V.length≤m) :
 Calls Tryz.prog 68 #[sl g j m cu,vv] w fun e w'=>∃U' c,e=.returned (.tuple #[])∧Mod [g] w w'∧Blk w' g 3 (U'.map i64++rest)∧BackAt U V j U' m c:=by
 obtain⟨av,cv,rfl⟩:=hv.lit
 have hs0:=hide (BackAt.start (V:=V) (j:=j) dU)
 go_enter Tryz.func68,Tryz.ntmps68
 go_wp2_with fail
 go_loopw [4,9] (fun c i wr=>∃(c' i':Nat) (U':List Nat),c=i64 c'∧i=i64 i'∧i'≤m∧Mod [g] w wr∧Blk wr g 3 (U'.map i64++rest)∧Hid (BackAt U V j U' i' c')) (fun _ i _=>m-(intOf i).toNat)
 case atStart=>exact⟨0,0,U,rfl,rfl,by omega,Mod.refl _ _,hU,hs0⟩
 case round=>
  obtain⟨c,i,U',rfl,rfl,hi,hm,hO,hS⟩:=hrel
  have hcb:=hS.out.carry
  have hOl:=hS.out.len
  by_cases h1:i<m
  ·obtain⟨ji,hji⟩:∃ji,ji=j+i:=⟨_,rfl⟩
   have hro:=hO.atR ji (by omega)
   have hfo:=hO.frozen ji
   have hin:nth U' ji=nth U ji:=hS.out.rest ji (by omega)
   rw[hin]at hro
   have hS2:=hS.out.next dU dV (by omega)
   rw[←hji]at hS2
   obtain⟨x,hx⟩:∃x,x=nth U ji:=⟨_,rfl⟩
   have hxb:x<65536:=by rw[hx];exact dU ji
   obtain⟨y,hy⟩:∃y,y=nth V i:=⟨_,rfl⟩
   have hyb:y<65536:=by rw[hy];exact dV i
   rw[←hx]at hro
   rw[←hx,←hy]at hS2
   obtain⟨s1,hs1⟩:∃s1,s1=x+c:=⟨_,rfl⟩
   obtain⟨s,hs⟩:∃s,s=s1+y:=⟨_,rfl⟩
   rw[←hs1,←hs]at hS2
   obtain⟨a,ha⟩:∃a,a=s%65536:=⟨_,rfl⟩
   obtain⟨b,hb⟩:∃b,b=s/65536:=⟨_,rfl⟩
   rw[←ha,←hb]at hS2
   have HS2:=hide hS2
   have e1:(x:Int)+(c:Int)=(s1:Int):=by omega
   have e2:(s1:Int)+(y:Int)=(s:Int):=by omega
   have e3:(s:Int)/65536=(b:Int):=by omega
   have e4:(s:Int)%65536=(a:Int):=by omega
   have b1:s≤200000:=by omega
   have b2:s1≤200000:=by omega
   have b3:b≤2:=by omega
   have him:(i:Int)<(m:Int):=by omega
   have hO2:Blk (wr.setCell ⟨g,ji,none⟩ (.int .i64 (a:Int))) g 3 ((U'.set ji a).map i64++rest):=hO.setR ji a (by omega)
   have hm2:Mod [g] w (wr.setCell ⟨g,ji,none⟩ (.int .i64 (a:Int))):=hm.setCell _ _ (by simp)
   rw[hji]at hro hfo
   have hset:∀v,wr.setCell ⟨g,j+i,none⟩ v=wr.setCell ⟨g,ji,none⟩ v:=fun v=>by rw[hji]
   have hib:i≤200000:=by omega
   by_cases h2:i<V.length
   ·obtain⟨bv,ov,rfl,_,hcV⟩:=(hv.mod hm (by simpa using hvg)).at (by omega)
    have hr2:=hcV i h2
    rw[←hy]at hr2
    clear hcV hOl hin hS2 ha hb hs hs1 hx hy hS
    go_wp2_with fail
    go_roundw
    case rel=>exact⟨b,i+1,_,by first|rfl|go_num,by go_num,by omega,hm2,hO2,HS2⟩
    case measure=>simp[intOf];omega
   ·have hy0:y=0:=by rw[hy,nth_ge (by omega)]
    obtain rfl:s=s1:=by omega
    clear hOl hin hS2 ha hb hs hs1 hx hy hS hy0 e2
    go_wp2_with fail
    go_roundw
    case rel=>exact⟨b,i+1,_,by first|rfl|go_num,by go_num,by omega,hm2,hO2,HS2⟩
    case measure=>simp[intOf];omega
  ·obtain rfl:i=m:=by omega
   clear hOl
   go_wp2_with fail
   go_end0
   exact⟨U',c,rfl,hm,hO,hS.out⟩
theorem knuth_low{v1 v2 vl t u2 ul P q V S:Nat}(hV:V=(v1*65536+v2)*P+vl)(hS:S=(t*65536+u2)*P+ul)(hul:ul<P)(hu2:u2<65536)(hq:q*V≤S):q*v1≤t:=by
 apply Classical.byContradiction
 intro hn
 have h1:t+1≤q*v1:=by omega
 have h2:(t+1)*(65536*P)≤q*v1*(65536*P):=Nat.mul_le_mul_right _ h1
 have h3:q*v1*(65536*P)≤q*V:=by
  rw[hV]
  have e:q*((v1*65536+v2)*P+vl)=q*v1*(65536*P)+q*(v2*P+vl):=by grind
  omega
 have h4:(u2+1)*P≤65536*P:=Nat.mul_le_mul_right _ (by omega)
 have e2:(t+1)*(65536*P)=t*65536*P+65536*P:=by grind
 have e3:(t*65536+u2)*P=t*65536*P+u2*P:=by grind
 have e4:(u2+1)*P=u2*P+P:=by grind
 omega
theorem knuth_high{v1 v2 vl t u2 ul P h r V S:Nat}(hV:V=(v1*65536+v2)*P+vl)(hS:S=(t*65536+u2)*P+ul)(hul:ul<P)(ht:h*v1+r=t)(hgt:r*65536+u2<h*v2):S<h*V:=by
 have h1:(r*65536+u2+1)*P≤h*v2*P:=Nat.mul_le_mul_right _ hgt
 have e1:h*V=h*v1*65536*P+h*v2*P+h*vl:=by rw[hV];grind
 have e2:S=h*v1*65536*P+(r*65536+u2)*P+ul:=by rw[hS,←ht];grind
 have e3:(r*65536+u2+1)*P=(r*65536+u2)*P+P:=by grind
 omega
theorem knuth_exit{v1 v2 vl t u2 ul P h r V S:Nat}(hV:V=(v1*65536+v2)*P+vl)(hS:S=(t*65536+u2)*P+ul)(hvl:vl<P)(hv1:1≤v1)(ht:h*v1+r=t)(hb:h<65536)(hle:h*v2≤r*65536+u2):h*V<S+V:=by
 have h1:h*v2*P≤(r*65536+u2)*P:=Nat.mul_le_mul_right _ hle
 have e1:h*V=h*v1*65536*P+h*v2*P+h*vl:=by rw[hV];grind
 have e2:S=h*v1*65536*P+(r*65536+u2)*P+ul:=by rw[hS,←ht];grind
 have h2:h*vl≤65535*P:=Nat.mul_le_mul (by omega) (by omega)
 have h3:1*(65536*P)≤v1*(65536*P):=Nat.mul_le_mul_right _ hv1
 have e3:V=v1*(65536*P)+v2*P+vl:=by rw[hV];grind
 have hP:0<P:=by omega
 omega
theorem knuth_break{v1 v2 vl t u2 ul P h r V S:Nat}(hV:V=(v1*65536+v2)*P+vl)(hS:S=(t*65536+u2)*P+ul)(hvl:vl<P)(hv2:v2<65536)(ht:h*v1+r=t)(hb:h≤65536)(hr:65536≤r):h*V≤S:=by
 have e1:h*V=h*v1*65536*P+(h*(v2*P+vl)):=by rw[hV];grind
 have e2:S=h*v1*65536*P+r*(65536*P)+(u2*P+ul):=by rw[hS,←ht];grind
 have h1:(v2+1)*P≤65536*P:=Nat.mul_le_mul_right _ hv2
 have e3:(v2+1)*P=v2*P+P:=by grind
 have h2:h*(v2*P+vl)≤65536*(65536*P):=Nat.mul_le_mul hb (by omega)
 have h3:65536*(65536*P)≤r*(65536*P):=Nat.mul_le_mul_right _ hr
 omega
theorem segS_head(U:List Nat)(j:Nat):∀m,segS U j (m+1)=nth U j+65536*segS U (j+1) m
 |0=>by simp[segS]
 |m+1=>by
  have ih:=segS_head U j m
  show segS U j (m+1)+65536^(m+1)*nth U (j+(m+1))=_
  rw[ih]
  show _=nth U j+65536*(segS U (j+1) m+65536^m*nth U (j+1+m))
  rw[show j+(m+1)=j+1+m by omega,Nat.pow_succ]
  grind
theorem segS_lt{U:List Nat}(h:Digits U)(j:Nat):∀m,segS U j m<65536^m
 |0=>by simp[segS]
 |m+1=>by
  have ih:=segS_lt h j m
  have hd:=h (j+m)
  simp only[segS,Nat.pow_succ]
  have:65536^m*(nth U (j+m)+1)≤65536^m*65536:=Nat.mul_le_mul_left _ hd
  rw[Nat.mul_add]at this
  omega
theorem segS_val(U:List Nat):∀m,segS U 0 m=valS (U.take m)
 |0=>rfl
 |m+1=>by simp only[segS];rw[segS_val U m,valS_take_any,Nat.zero_add]
theorem seg_shape(U:List Nat)(j n:Nat)(hn:2≤n):segS U j (n+1)=((nth U (j+n)*65536+nth U (j+(n-1)))*65536+nth U (j+(n-2)))*65536^(n-2)+segS U j (n-2):=by
 obtain⟨k,rfl⟩:∃k,n=k+2:=⟨n-2,by omega⟩
 simp only[segS,Nat.add_sub_cancel,show k+2-1=k+1 by omega,Nat.pow_succ]
 grind
theorem val_shape{V:List Nat}(hn:2≤V.length):valS V=(nth V (V.length-1)*65536+nth V (V.length-2))*65536^(V.length-2)+valS (V.take (V.length-2)):=by
 have h1:=valS_take_any V (V.length-1)
 have h2:=valS_take_any V (V.length-2)
 rw[show V.length-1+1=V.length by omega,List.take_length]at h1
 rw[show V.length-2+1=V.length-1 by omega]at h2
 rw[h1,h2]
 obtain⟨k,hk⟩:∃k,V.length=k+2:=⟨V.length-2,by omega⟩
 rw[hk]
 simp only[Nat.add_sub_cancel,show k+2-1=k+1 by omega,Nat.pow_succ]
 grind
theorem segS_add(U:List Nat)(j k:Nat):∀m,segS U j (k+m)=segS U j k+65536^k*segS U (j+k) m
 |0=>by simp[segS]
 |m+1=>by
  have ih:=segS_add U j k m
  show segS U j (k+m)+65536^(k+m)*nth U (j+(k+m))=segS U j k+65536^k*(segS U (j+k) m+65536^m*nth U (j+k+m))
  rw[ih,Nat.pow_add,show j+(k+m)=j+k+m by omega]
  grind
theorem segS_congr{U W':List Nat}{j:Nat}:∀m,(∀k,k<m→nth U (j+k)=nth W' (j+k))→segS U j m=segS W' j m
 |0,_=>rfl
 |m+1,h=>by simp only[segS];rw[segS_congr m (fun k hk=>h k (by omega)),h m (by omega)]
structure DivAt(T:Nat)(V U O:List Nat)(m j:Nat):Prop where
 lenU:U.length=m+V.length
 lenO:O.length=m
 digU:Digits U
 digO:Digits O
 top:segS U j V.length<valS V
 zero:∀k,j+V.length≤k→nth U k=0
 val:T=segS U 0 (j+V.length)+65536^j*valS (O.drop j)*valS V
theorem DivAt.next{T m j q:Nat}{V U U' O:List Nat}(h:DivAt T V U O m (j+1))(hj:j<m)(hq:q<65536)(hd:Digits U')(hl:U'.length=U.length)
 (hrest:∀k,¬(j≤k∧k<j+(V.length+1))→nth U' k=nth U k) (hseg:segS U' j (V.length+1)+q*valS V=segS U j (V.length+1)) (hlt:segS U' j (V.length+1)<valS V) (hV:valS V<65536^V.length) :
 DivAt T V U' (O.set j q) m j:=by
 have hlo:=h.lenO
 have htop:nth U' (j+V.length)=0:=by
  apply Classical.byContradiction
  intro hne
  have e:segS U' j (V.length+1)=segS U' j V.length+65536^V.length*nth U' (j+V.length):=rfl
  have:65536^V.length*1≤65536^V.length*nth U' (j+V.length):=Nat.mul_le_mul_left _ (by omega)
  omega
 have e1:segS U' j (V.length+1)=segS U' j V.length:=by
  show segS U' j V.length+65536^V.length*nth U' (j+V.length)=_
  rw[htop,Nat.mul_zero,Nat.add_zero]
 refine⟨hl.trans h.lenU,by simp[hlo],hd,h.digO.set _ hq,by rw[←e1];exact hlt,fun k hk=>?_,?_⟩
 ·by_cases hk2:k=j+V.length
  ·rw[hk2];exact htop
  ·rw[hrest k (by omega)];exact h.zero k (by omega)
 ·have h1:=h.val
  have h2:=segS_add U 0 j (V.length+1)
  have h3:=segS_add U' 0 j V.length
  have h4:segS U' 0 j=segS U 0 j:=segS_congr j (fun k hk=>hrest _ (by omega))
  have h5:=valS_drop (O.set j q) j
  have h6:(O.set j q).drop (j+1)=O.drop (j+1):=List.drop_set_of_lt (by omega)
  rw[nth_set_same (by omega),h6]at h5
  rw[Nat.zero_add]at h2 h3
  rw[show j+1+V.length=j+(V.length+1)by omega,h2,Nat.pow_succ]at h1
  rw[h3,h4,h5,←e1]
  rw[h1,←hseg]
  grind
theorem cmpV_neg(a b:Nat):(cmpV a b<0)↔a<b:=by
 unfold cmpV
 split
 ·omega
 ·split<;>omega
def DivPost(A B:List Nat)(w:World)(e:Ending)(w':World):Prop:=
 ∃v1 v2 Q R,e=.returned (.tuple #[v1,v2])∧Mod [] w w'∧SliceK i64 w' v1 Q∧Canon Q∧valS Q=valS A/valS B∧Q.length≤A.length∧SliceK i64 w' v2 R∧Canon R∧valS R=valS A%valS B∧R.length≤A.length
set_option maxRecDepth 100000 in
theorem c_DivMod_lt(va vb:Value)(A B:List Nat)(w:World)(ha:SliceK i64 w va A)(hb:SliceK i64 w vb B)(cA:Canon A)(cB:Canon B)(lA:A.length≤50000)(hlt:valS A<valS B) :
 Calls Tryz.prog 34 #[va,vb] w (DivPost A B w):=by
 have hc:=(cmpV_neg (valS A) (valS B)).2 hlt
 have HQ:=hide (show valS A/valS B=0∧valS A%valS B=valS A from⟨Nat.div_eq_of_lt hlt,Nat.mod_eq_of_lt hlt⟩)
 obtain⟨cv,hcv⟩:∃cv,cv=cmpV (valS A) (valS B):=⟨_,rfl⟩
 rw[←hcv]at hc
 go_enter Tryz.func34,Tryz.ntmps34
 go_wp2_with fail
 refine(c_Cmp va vb A B _ ha hb cA cB (by omega)).mono ?_
 rintro e w1 ⟨rfl,m1⟩
 rw[←hcv]
 clear hcv hlt
 have hnil:SliceK i64 (w1.alloc (.cells #[] 3)) (sl w1.heap.size 0 0 0) []:=.inr ⟨w1.heap.size,0,0,rfl,Nat.le_refl _,fun i hi=>by simp at hi⟩
 have ha2:SliceK i64 (w1.alloc (.cells #[] 3)) va A:=(ha.mod m1 (by simp)).mod ((Mod.refl [] _).alloc _) (by simp)
 have hm2:Mod [] w (w1.alloc (.cells #[] 3)):=m1.alloc _
 go_wp2_with fail
 go_ret2
 refine⟨_,va,[],A,rfl,hm2,hnil,⟨fun i=>by rw[nth_ge (by simp)];omega,by simp⟩,?_,by simp,ha2,cA,HQ.out.2.symm,Nat.le_refl _⟩
 rw[HQ.out.1]
 rfl
set_option maxRecDepth 100000 in
theorem c_DivMod_one(va vb:Value)(A B:List Nat)(w:World)(ha:SliceK i64 w va A)(hb:SliceK i64 w vb B)(cA:Canon A)(cB:Canon B)(lA:A.length≤50000)(hge:valS B≤valS A)(h1:B.length=1) :
 Calls Tryz.prog 34 #[va,vb] w (DivPost A B w):=by
 have hc:¬cmpV (valS A) (valS B)<0:=by rw[cmpV_neg];omega
 obtain⟨d,rfl⟩:∃d,B=[d]:=by
  cases B with
  |nil=>simp at h1
  |cons d l=>
   have:l=[]:=List.eq_nil_of_length_eq_zero (by simpa using h1)
   exact⟨d,by rw[this]⟩
 have hd0:0<d:=by
  have:=cB.top (by simp)
  have e:nth [d] ([d].length-1)=d:=rfl
  rw[e]at this
  omega
 have hd:d<65536:=cB.digits 0
 have hvB:valS [d]=d:=by simp[valS]
 have hA0:A.length≠0:=by
  intro h0
  rw[List.eq_nil_of_length_eq_zero h0,hvB]at hge
  simp[valS]at hge
  omega
 rw[hvB]at hc hge
 obtain⟨cv,hcv⟩:∃cv,cv=cmpV (valS A) d:=⟨_,rfl⟩
 rw[←hcv]at hc
 obtain⟨ab,cb,hvb⟩:=hb.lit
 subst hvb
 have H1:=hide h1
 clear h1
 have C:=hide (c_Cmp va (.slice ab [d].length cb) A [d] w ha hb cA cB (by omega))
 rw[hvB,←hcv]at C
 simp only[List.length_singleton]at C ⊢
 have HV:=hide hvB
 have hb':SliceK i64 w (.slice ab 1 cb) [d]:=hb
 clear hcv hvB hb
 go_enter Tryz.func34,Tryz.ntmps34
 go_wp2_with fail
 refine C.out.mono ?_
 rintro e w1 ⟨rfl,m1⟩
 obtain⟨b,o,rfl,_,hcB⟩:=(hb'.mod m1 (by simp)).at (by simp)
 have hr:=hcB 0 (by simp)
 rw[Nat.add_zero,show nth [d] 0=d from rfl]at hr
 have ha1:=ha.mod m1 (by simp)
 clear hcB
 go_wp2_with fail
 refine(c_byDigit va A d _ ha1 cA.digits hd0 hd (by omega)).mono ?_
 rintro e w2 ⟨v1,Q,rfl,m2,hs2,hc2,hv2,hl2⟩
 have m12:Mod [] w w2:=Mod.trans (U:=[]) m1 m2 (by simp) (by simp)
 obtain⟨r,hr'⟩:∃r,r=valS A%d:=⟨_,rfl⟩
 have hrd:r<d:=by rw[hr'];exact Nat.mod_lt _ hd0
 rw[←hr']
 have HR:=hide hr'
 have HV2:=hide hv2
 clear hr' hv2
 go_wp2_with fail
 refine(c_Small r (by omega) _).mono ?_
 rintro e w3 ⟨v2,R,rfl,m3,o3,c3,hv3⟩
 have m13:Mod [] w w3:=Mod.trans (U:=[]) m12 m3 (by simp) (by simp)
 have hs3:=hs2.mod m3 (by simp)
 have hlR:Hid (R.length≤A.length):=by
  refine hide ?_
  rcases Nat.lt_or_ge R.length 2 with h|h
  ·omega
  ·have h5:=valS_ge c3 (by omega)
   rw[hv3]at h5
   have h6:65536^1≤65536^(R.length-1):=Nat.pow_le_pow_right (by omega) (by omega)
   omega
 have HV3:=hide hv3
 clear hv3
 go_wp2_with fail
 go_ret2
 exact⟨v1,v2,Q,R,rfl,m13,hs3,hc2,by rw[HV.out];exact HV2.out,hl2,o3.slice,c3,by rw[HV.out,HV3.out,HR.out],hlR.out⟩
theorem norm_shape{B L:List Nat}{s:Nat}(cB:Canon B)(cL:Canon L)(hB:0<B.length)(hs:s<16)(hL:valS L=valS B*2^s)(h1:32768≤nth B (B.length-1)*2^s)(h2:nth B (B.length-1)*2^s<65536) :
 L.length=B.length∧32768≤nth L (L.length-1):=by
 obtain⟨k,hk⟩:∃k,B.length=k+1:=⟨B.length-1,by omega⟩
 rw[hk,Nat.add_sub_cancel]at h1 h2
 have e1:=valS_take_succ (L:=B) (i:=k) (by omega)
 rw[←hk,List.take_length]at e1
 have e2:=valS_lt (cB.digits.take k)
 rw[List.length_take,Nat.min_eq_left (by omega)]at e2
 have hp:65536=2^s*2^(16-s):=by rw[←Nat.pow_add,show s+(16-s)=16 by omega]
 have h3:(nth B k+1)*2^s≤65536:=by
  have:nth B k<2^(16-s):=by
   apply Nat.lt_of_mul_lt_mul_right (a:=2^s)
   rw[Nat.mul_comm (2^(16-s)),←hp]
   exact h2
  calc (nth B k+1)*2^s≤2^(16-s)*2^s:=Nat.mul_le_mul_right _ this
   _=65536:=by rw[Nat.mul_comm,←hp]
 have hlo:32768*65536^k≤valS L:=by
  have:=Nat.mul_le_mul_right (65536^k) h1
  have e:valS L=valS (B.take k)*2^s+nth B k*2^s*65536^k:=by rw[hL,e1];grind
  omega
 have hhi:valS L<65536*65536^k:=by
  have h4:=Nat.mul_le_mul_right (65536^k) h3
  have h5:valS B<(nth B k+1)*65536^k:=by rw[e1];grind
  have h6:valS B*2^s<(nth B k+1)*65536^k*2^s:=Nat.mul_lt_mul_of_pos_right h5 (Nat.pow_pos (by omega))
  have e:(nth B k+1)*65536^k*2^s=(nth B k+1)*2^s*65536^k:=by grind
  omega
 have hpos:0<65536^k:=Nat.pow_pos (by omega)
 have hlen:L.length=k+1:=by
  have h7:=valS_lt cL.digits
  have hne:L.length≠0:=by
   intro h0
   rw[h0]at h7
   omega
  have h8:=valS_ge cL hne
  rcases Nat.lt_trichotomy L.length (k+1)with h|h|h
  ·have:65536^L.length≤65536^k:=Nat.pow_le_pow_right (by omega) (by omega)
   omega
  ·exact h
  ·have:65536^(k+1)≤65536^(L.length-1):=Nat.pow_le_pow_right (by omega) (by omega)
   rw[Nat.pow_succ]at this
   omega
 refine⟨by omega,?_⟩
 rw[hlen,Nat.add_sub_cancel]
 have e3:=valS_take_succ (L:=L) (i:=k) (by omega)
 rw[←hlen,List.take_length]at e3
 have e4:=valS_lt (cL.digits.take k)
 rw[List.length_take,Nat.min_eq_left (by omega)]at e4
 apply Classical.byContradiction
 intro hlt
 have h9:(nth L k+1)*65536^k≤32768*65536^k:=Nat.mul_le_mul_right _ (by omega)
 have e5:(nth L k+1)*65536^k=65536^k*nth L k+65536^k:=by grind
 omega
end Go.Proofs.YtfgmnbmnpihjdaaGreatDoor
