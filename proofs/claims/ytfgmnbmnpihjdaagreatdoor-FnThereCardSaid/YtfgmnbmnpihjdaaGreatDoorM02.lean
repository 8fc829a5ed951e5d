/- Lemmas of mine for the walk and its plain laws: ShaD -/
import Derived.Test.YtfgmnbmnpihjdaaGreatDoorM01
import Derived.Deep.MidRow
set_option linter.all false
set_option exponentiation.threshold 7000000
namespace Go.Proofs.YtfgmnbmnpihjdaaGreatDoor
open Go.RowKit
def DgRow(k:Int→Value)(hs:List Int)(X:List Nat)(nx ln:Nat)(fl:Value):List Value:=hs.map k++(X.map u8++[i64 nx,u64 ln,fl])
section
variable {w:World} {d T C:Nat} {k:Int→Value} {hs:List Int} {X:List Nat} {nx ln:Nat} {fl:Value}
theorem DgRow.at_nx(h:Blk w d T (DgRow k hs X nx ln fl))(lh:hs.length=8)(lX:X.length=C){o:Nat}(ho:o=8+C):w.cell? ⟨d,o,none⟩=some (i64 nx):=by
 rw[h.cell,ho,DgRow,List.getElem?_append_right (by simp;omega),List.getElem?_append_right (by simp;omega)]
 simp[lh,lX]
theorem DgRow.at_ln(h:Blk w d T (DgRow k hs X nx ln fl))(lh:hs.length=8)(lX:X.length=C){o:Nat}(ho:o=9+C):w.cell? ⟨d,o,none⟩=some (u64 ln):=by
 rw[h.cell,ho,DgRow,List.getElem?_append_right (by simp;omega),List.getElem?_append_right (by simp;omega)]
 simp[lh,lX,show 9+C-8-C=1 by omega]
theorem DgRow.at_fl(h:Blk w d T (DgRow k hs X nx ln fl))(lh:hs.length=8)(lX:X.length=C){o:Nat}(ho:o=10+C):w.cell? ⟨d,o,none⟩=some fl:=by
 rw[h.cell,ho,DgRow,List.getElem?_append_right (by simp;omega),List.getElem?_append_right (by simp;omega)]
 simp[lh,lX,show 10+C-8-C=2 by omega]
theorem DgRow.at_x(h:Blk w d T (DgRow k hs X nx ln fl))(lh:hs.length=8){i:Nat}(hi:i<X.length):w.cell? ⟨d,8+i,none⟩=some (u8 (nth X i)):=by
 rw[h.cell,DgRow,List.getElem?_append_right (by simp;omega),List.length_map,lh,show 8+i-8=i by omega,List.getElem?_append_left (by simpa using hi),map_get hi]
theorem DgRow.at_h(h:Blk w d T (DgRow k hs X nx ln fl))(lh:hs.length=8){i:Nat}(hi:i<8):w.cell? ⟨d,i,none⟩=some (k (ith hs i)):=by
 rw[h.cell,DgRow,List.getElem?_append_left (by simp;omega),map_geti (by omega)]
theorem DgRow.length(lh:hs.length=8)(lX:X.length=C):(DgRow k hs X nx ln fl).length=11+C:=by
 simp[DgRow,lh,lX];omega
theorem set_behind{α:Type}(A B:List α)(i:Nat)(v : α):(A++B).set (A.length+i) v=A++B.set i v:=by
 rw[List.set_append_right _ _ (by omega)]
 congr 2
 omega
theorem DgRow.set_nx(lh:hs.length=8)(lX:X.length=C){o n':Nat}(ho:o=8+C):(DgRow k hs X nx ln fl).set o (i64 n')=DgRow k hs X n' ln fl:=by
 have h1:=set_behind (hs.map k) (X.map u8++[i64 nx,u64 ln,fl]) C (i64 n')
 have h2:=set_behind (X.map u8) [i64 nx,u64 ln,fl] 0 (i64 n')
 rw[List.length_map,lh]at h1
 rw[List.length_map,lX,Nat.add_zero]at h2
 rw[DgRow,ho,h1,h2];rfl
theorem DgRow.set_ln(lh:hs.length=8)(lX:X.length=C){o n':Nat}(ho:o=9+C):(DgRow k hs X nx ln fl).set o (u64 n')=DgRow k hs X nx n' fl:=by
 have h1:=set_behind (hs.map k) (X.map u8++[i64 nx,u64 ln,fl]) (C+1) (u64 n')
 have h2:=set_behind (X.map u8) [i64 nx,u64 ln,fl] 1 (u64 n')
 rw[List.length_map,lh]at h1
 rw[List.length_map,lX]at h2
 rw[DgRow,ho,show 9+C=8+(C+1)by omega,h1,h2];rfl
theorem DgRow.put_nx(h:Blk w d T (DgRow k hs X nx ln fl))(lh:hs.length=8)(lX:X.length=C){o:Nat}(ho:o=8+C)(n':Nat):Blk (w.setCell ⟨d,o,none⟩ (i64 n')) d T (DgRow k hs X n' ln fl):=by
 rw[←DgRow.set_nx (k:=k) (nx:=nx) (n':=n') lh lX ho];exact h.setCell o _
theorem DgRow.put_ln(h:Blk w d T (DgRow k hs X nx ln fl))(lh:hs.length=8)(lX:X.length=C){o:Nat}(ho:o=9+C)(n':Nat):Blk (w.setCell ⟨d,o,none⟩ (u64 n')) d T (DgRow k hs X nx n' fl):=by
 rw[←DgRow.set_ln (k:=k) (ln:=ln) (n':=n') lh lX ho];exact h.setCell o _
theorem DgRow.splice(lh:hs.length=8){U:List Nat}{o:Nat}(ho:o+U.length≤X.length) :
 splice' (DgRow k hs X nx ln fl) (U.map u8) (8+o)=DgRow k hs (X.take o++U++X.drop (o+U.length)) nx ln fl:=by
 have l1:(hs.map k).length=8:=by simpa using lh
 unfold splice' DgRow
 rw[List.take_append,List.drop_append,l1,List.take_of_length_le (l:=hs.map k) (by omega),show List.drop (8+o+(U.map u8).length) (hs.map k)=[]from List.drop_eq_nil_of_le (by simp;omega),List.nil_append,
  show 8+o-8=o by omega,List.length_map,show 8+o+U.length-8=o+U.length by omega,List.take_append,List.drop_append,List.length_map,
  show o-X.length=0 by omega,show o+U.length-X.length=0 by omega]
 simp[List.map_take,List.map_drop]
end
theorem and_high(n k:Nat)(hk:k≤20)(hn:n<2^31):n &&& (2^64-1-(2^k-1))=2^k*(n/2^k):=by
 have hp:0<2^k:=Nat.two_pow_pos k
 have hle:2^k≤2^20:=Nat.pow_le_pow_right (by omega) hk
 rw[show 2^64-1-(2^k-1)=2^64-((2^k-1)+1)by omega]
 apply Nat.eq_of_testBit_eq
 intro i
 rw[Nat.testBit_and,Nat.testBit_two_pow_sub_succ (by omega),Nat.testBit_two_pow_sub_one,Nat.testBit_two_pow_mul,Nat.testBit_div_two_pow]
 by_cases h1:i<k
 ·simp[h1]
  intro h
  omega
 ·by_cases h2:i<64
  ·simp[h1,h2,show k≤i by omega]
  ·have:n.testBit i=false:=Nat.testBit_lt_two_pow (Nat.lt_of_lt_of_le hn (Nat.pow_le_pow_right (by omega) (by omega)))
   simp[this,show k≤i by omega]
theorem andNot_low(n k:Nat)(hk:k≤20)(hn:n<2^31):bits .andNot .i64 (n:Int) ((2^k-1:Nat):Int)=((2^k*(n/2^k):Nat):Int):=by
 have hle:2^k≤2^20:=Nat.pow_le_pow_right (by omega) hk
 have e1:∀a:Nat,a<2^64→(BitVec.ofInt 64 (a:Int)).toNat=a:=fun a h=>by
  rw[BitVec.ofInt_natCast,BitVec.toNat_ofNat];exact Nat.mod_eq_of_lt h
 have h3:2^k*(n/2^k)≤n:=Nat.mul_div_le _ _
 show IntKind.i64.wrap ((BitVec.ofInt 64 (n:Int) &&& ~~~BitVec.ofInt 64 ((2^k-1:Nat):Int)).toNat:Int)=_
 rw[BitVec.toNat_and,BitVec.toNat_not,e1 n (by omega),e1 (2^k-1) (by omega),and_high n k hk hn]
 exact IntWalk.i64_in _ (by omega)
theorem andNot63(n:Nat)(hn:n<2^31):bits .andNot .i64 (n:Int) 63=((64*(n/64):Nat):Int):=andNot_low n 6 (by omega) hn
theorem andNot127(n:Nat)(hn:n<2^31):bits .andNot .i64 (n:Int) 127=((128*(n/128):Nat):Int):=andNot_low n 7 (by omega) hn
def DgL(F:List Int→List Nat→List Int)(C:Nat)(k:Int→Value)(T:Nat)(w:World)(d:Nat)(ini:List Int)(fl:Value)(M:List Nat)(ln:Nat):Prop:=
 ∃X,X.length=C∧(∀j,j<M.length%C→nth X j=nth M (C*(M.length/C)+j))∧Blk w d T (DgRow k (stH F C ini M) X (M.length%C) ln fl)
def DgAt(F:List Int→List Nat→List Int)(C:Nat)(k:Int→Value)(T:Nat)(w:World)(d:Nat)(ini:List Int)(fl:Value)(M:List Nat):Prop:=DgL F C k T w d ini fl M M.length
theorem cell_off{w w':World}{S:List Nat}{k i:Nat}{v:Value}(h:w.cell? ⟨k,i,none⟩=some v)(m:Mod S w w')(hk:k∉S):w'.cell? ⟨k,i,none⟩=some v:=by
 have hlt:k<w.heap.size:=block_lt_of_cell h
 rw[←h]
 exact World.cell?_of_block (w:=w) (m.block k hlt hk)
theorem nth_take{L:List Nat}{n j:Nat}(h:j<n):nth (L.take n) j=nth L j:=by simp[nth,List.getElem?_take,h]
theorem size_u8:(Tryz.prog.info? 5).map (·.size)=some 1:=by kernel_rfl
def loopAt(n:Nat):Code→Option Code
 | .seq a b=>match loopAt n b with
   |some c=>some c
   |none=>loopAt n a
 | .block _ c=>loopAt n c
 | .loop c=>if startsAt n c then some c else loopAt n c
 | .cond _ a b=>match loopAt n a with
   |some c=>some c
   |none=>loopAt n b
 |_=>none
theorem run_arr_from{t n:Nat}(ht:Tryz.prog.underlying t=some (.array (Tryz.prog.arrayLen t) (Tryz.prog.elem t)))(hn:Tryz.prog.arrayLen t=n)(he:(Tryz.prog.info? (Tryz.prog.elem t)).map (·.size)=some 1)(hc:Tryz.prog.cellsOf (Tryz.prog.elem t)=1)(b o m:Nat)(hm:m<n)(u:World) :
 (Instr.sliceAt t (.pointer (some ⟨b,o,none⟩)) (some (i64 m)) none none).run Tryz.prog u=.ok (sl b (o+m) (n-m) (n-m)) u:=by
 rw[run_sliceAt_array_l u t ⟨b,o,none⟩ ht .i64 (m:Int) (by omega) (by rw[hn];omega),hn,run_sizeOf u (Option.map_eq_some_iff.1 he).choose_spec.1,hc]
 simp only[Result.andThen_ok,slicedAt,Int.toNat_natCast,if_neg (show ¬n=m by omega),Nat.mul_one,add_addr]
theorem run_arr_all{t n:Nat}(ht:Tryz.prog.underlying t=some (.array (Tryz.prog.arrayLen t) (Tryz.prog.elem t)))(hn:Tryz.prog.arrayLen t=n)(he:(Tryz.prog.info? (Tryz.prog.elem t)).map (·.size)=some 1)(hc:Tryz.prog.cellsOf (Tryz.prog.elem t)=1)(b o:Nat)(h0:0<n)(u:World) :
 (Instr.sliceAt t (.pointer (some ⟨b,o,none⟩)) none none none).run Tryz.prog u=.ok (sl b o n n) u:=by
 rw[run_sliceAt_array_all u t ⟨b,o,none⟩ ht,hn,run_sizeOf u (Option.map_eq_some_iff.1 he).choose_spec.1,hc]
 simp only[Result.andThen_ok,slicedAt,if_neg (show ¬n=0 by omega),Nat.zero_mul,add_addr,Nat.add_zero,Nat.sub_zero]
def WrRel(F:List Int→List Nat→List Int)(C:Nat)(k:Int→Value)(T:Nat)(ini:List Int)(fl:Value)(M P:List Nat)(N:Nat)(w:World)(d pb po:Nat)(pv:Value)(wx:World)(t:Nat):Prop:=
 ∃(o c2:Nat) (h2:List Int) (X2:List Nat),pv=sl pb o (P.length-t) c2∧t≤P.length∧P.length-t≤c2∧(t<P.length→o=po+t)∧Mod [d] w wx∧X2.length=C∧h2.length=8 ∧
  Blk wx d T (DgRow k h2 X2 ((M.length+t)%C) N fl) ∧
  Hid (h2=stH F C ini (M++P.take t)∧(∀j,j<(M.length+t)%C→nth X2 j=nth (M++P.take t) (C*((M.length+t)/C)+j))∧(t<P.length→(M.length+t)%C=0))
theorem nth_fill{X P:List Nat}{m t:Nat}(hm:m≤X.length)(ht:t≤P.length){j:Nat}:(j<m→nth (X.take m++P.take t++X.drop (m+t)) j=nth X j)∧(m≤j→j<m+t→nth (X.take m++P.take t++X.drop (m+t)) j=nth P (j-m)):=by
 have l1:(X.take m).length=m:=by rw[List.length_take];omega
 have l2:(P.take t).length=t:=by rw[List.length_take];omega
 refine⟨fun h=>?_,fun h1 h2=>?_⟩
 ·rw[List.append_assoc,nth_append_left (by omega),nth_take h]
 ·rw[nth_append_left (by rw[List.length_append];omega),nth_append_right (by omega),l1,nth_take (by omega)]
theorem cut_drop{P:List Nat}{t n:Nat}(h:t+n≤P.length):cut P t n=(P.drop t).take n:=list_ext (by rw[cut_length,List.length_take,List.length_drop];omega) fun i hi=>by
 rw[cut_length]at hi
 rw[nth_cut hi,nth_take hi,nth_drop]
theorem take_cut{P:List Nat}{t n:Nat}(h:t+n≤P.length):P.take (t+n)=P.take t++cut P t n:=by
 rw[cut_drop h,List.take_add]
structure PutB(V O:List Nat)(o i:Nat)(f:Nat→Nat):Prop where
 len:O.length=V.length
 new:∀j,j<i→nth O (o+j)=f j
 old:∀j,j<o∨o+i≤j→nth O j=nth V j
theorem PutB.start(V:List Nat)(o:Nat)(f:Nat→Nat):PutB V V o 0 f:=⟨rfl,fun j h=>absurd h (Nat.not_lt_zero j),fun _ _=>rfl⟩
theorem PutB.next{V O:List Nat}{o i n v:Nat}{f:Nat→Nat}(h:PutB V O o i f)(hi:i<n)(hl:o+n≤V.length)(hv:v=f i):PutB V (O.set (o+i) v) o (i+1) f:=by
 have hlen:=h.len
 refine⟨by rw[List.length_set];exact hlen,fun j hj=>?_,fun j hj=>?_⟩
 ·by_cases e:j=i
  ·subst e;rw[nth_set_same (by omega),hv]
  ·rw[nth_set_ne (by omega)];exact h.new j (by omega)
 ·rw[nth_set_ne (by omega)];exact h.old j (by omega)
theorem Mod.old{a b c:World}{d:Nat}(h:Mod [] a b)(k:Mod [d] b c)(hd:a.heap.size≤d:=by exact Nat.le_refl _):Mod [] a c:=h.trans k (by simp) (fun x hx hl=>by simp at hx;omega)
def putL(V:List Nat)(o i:Nat)(f:Nat→Nat):List Nat:=(List.range V.length).map fun j=>if o≤j∧j<o+i then f (j-o)else nth V j
theorem putL_length(V:List Nat)(o i:Nat)(f:Nat→Nat):(putL V o i f).length=V.length:=by simp[putL]
theorem nth_putL{V:List Nat}{o i:Nat}{f:Nat→Nat}{j:Nat}(h:j<V.length):nth (putL V o i f) j=if o≤j∧j<o+i then f (j-o)else nth V j:=by simp[nth,putL,h]
theorem PutB.eq{V O:List Nat}{o i:Nat}{f:Nat→Nat}(h:PutB V O o i f):O=putL V o i f:=list_ext (by rw[h.len,putL_length]) fun j hj=>by
 rw[nth_putL (by rw[←h.len];exact hj)]
 by_cases h1:o≤j∧j<o+i
 ·rw[if_pos h1,←h.new (j-o) (by omega),show o+(j-o)=j by omega]
 ·rw[if_neg h1,h.old j (by omega)]
theorem putL_bytes{V:List Nat}(hV:Bytes V)(o i:Nat){f:Nat→Nat}(hf:∀j,f j<256):Bytes (putL V o i f):=by
 intro j
 by_cases hj:j<V.length
 ·rw[nth_putL hj];split
  ·exact hf _
  ·exact hV j
 ·rw[nth_ge (by rw[putL_length];omega)];omega
theorem run_arr_to{t n:Nat}(ht:Tryz.prog.underlying t=some (.array (Tryz.prog.arrayLen t) (Tryz.prog.elem t)))(hn:Tryz.prog.arrayLen t=n)(he:(Tryz.prog.info? (Tryz.prog.elem t)).map (·.size)=some 1)(hc:Tryz.prog.cellsOf (Tryz.prog.elem t)=1)(k:IntKind)(b o m:Nat)(h0:0<n)(hm:m≤n)(u:World) :
 (Instr.sliceAt t (.pointer (some ⟨b,o,none⟩)) none (some (.int k (m:Int))) none).run Tryz.prog u=.ok (sl b o m n) u:=by
 rw[run_sliceAt_array_h u t ⟨b,o,none⟩ ht k (m:Int) (by omega) (by rw[hn];omega),hn,run_sizeOf u (Option.map_eq_some_iff.1 he).choose_spec.1,hc]
 simp only[Result.andThen_ok,slicedAt,Int.toNat_natCast,if_neg (show ¬n=0 by omega),Nat.zero_mul,add_addr,Nat.add_zero,Nat.sub_zero]
theorem DgAt.mod{F:List Int→List Nat→List Int}{C:Nat}{k:Int→Value}{T:Nat}{w w':World}{d:Nat}{ini:List Int}{fl:Value}{M:List Nat}{S:List Nat}(h:DgAt F C k T w d ini fl M)(m:Mod S w w')(hd:d∉S):DgAt F C k T w' d ini fl M:=by
 obtain⟨X,h1,h2,h3⟩:=h
 exact⟨X,h1,h2,h3.mod m hd⟩
theorem Blk.range{w:World}{b T:Nat}{vs:List Value}(h:Blk w b T vs):w.rangeAt b 0 vs:=fun j v hv=>by rw[Nat.zero_add,h.cell];exact hv
theorem Blk.there{w:World}{b T:Nat}{vs:List Value}(h:Blk w b T vs){n:Nat}(hn:n≤vs.length):w.there b 0 n:=fun j hj=>⟨by rw[Nat.zero_add,h.cell];simp;omega,h.frozen _⟩
theorem Mod.setCells{S:List Nat}{a:World}{b:Nat}:∀(vs:List Value) (o:Nat) {c:World},Mod S a c→(b<a.heap.size→b∈S)→Mod S a (c.setCells b o vs)
 | [],_,_,h,_=>h
 |v::vs,o,_,h,hb=>Mod.setCells vs (o+1) (h.setCell _ _ hb) hb
theorem results_arr{fn:Func}{t T p:Nat}{tmps:Array Value}{x:Value}{w:World}(h:fn.results=#[.cell t T])(hp:tmps.getD t undef=.pointer (some ⟨p,0,none⟩))(hl:(loadVar T ⟨p,0,none⟩).run Tryz.prog w=.ok x w) :
 (results fn tmps).run Tryz.prog w=.ok x w:=by
 have hp2:tmps[t]?.getD undef=.pointer (some ⟨p,0,none⟩):=by simpa using hp
 simp[results,h,hp2,asAddr,hl]
theorem set_take_drop{α:Type}(us vs:List α)(o:Nat)(v : α)(h:o<us.length):(us.set o v).take (o+1)++vs++(us.set o v).drop (o+1+vs.length)=us.take o++v::vs++us.drop (o+(vs.length+1)):=by
 rw[List.take_succ_eq_append_getElem (by simpa using h),List.getElem_set_self,List.take_set,List.set_eq_of_length_le (by rw[List.length_take];exact Nat.min_le_left _ _),List.drop_set_of_lt (by omega),show o+1+vs.length=o+(vs.length+1)by omega]
 simp
theorem Blk.setCells{b T:Nat}:∀(vs:List Value) (o:Nat) {w:World} {us:List Value},Blk w b T us→o+vs.length≤us.length→Blk (w.setCells b o vs) b T (us.take o++vs++us.drop (o+vs.length))
 | [],o,w,us,h,_=>by simpa [World.setCells]using h
 |v::vs,o,w,us,h,hl=>by
  have hl2:o+vs.length+1≤us.length:=by simpa [Nat.add_assoc]using hl
  have:=Blk.setCells vs (o+1) (h.setCell o v) (by rw[List.length_set];omega)
  rw[set_take_drop us vs o v (by omega)]at this
  exact this
theorem Blk.overwrite{w:World}{b T:Nat}{us vs:List Value}(h:Blk w b T us)(hl:us.length=vs.length):Blk (w.setCells b 0 vs) b T vs:=by
 have:=Blk.setCells vs 0 h (by omega)
 rw[List.take_zero,List.nil_append,Nat.zero_add,List.drop_eq_nil_of_le (by omega),List.append_nil]at this
 exact this
theorem DgRow.one{k:Int→Value}(hk:∀z,(k z).oneCell'=true){hs:List Int}{X:List Nat}{nx ln:Nat}{fl:Value}(hf:fl.oneCell'=true):∀v∈DgRow k hs X nx ln fl,v.oneCell'=true:=by
 intro v hv
 simp only[DgRow,List.mem_append,List.mem_map,List.mem_cons,List.not_mem_nil,or_false]at hv
 rcases hv with⟨z,_,rfl⟩|⟨z,_,rfl⟩|rfl|rfl|rfl
 ·exact hk z
 ·rfl
 ·rfl
 ·rfl
 ·exact hf
end Go.Proofs.YtfgmnbmnpihjdaaGreatDoor
