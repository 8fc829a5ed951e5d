/- Lemmas of mine for the walk and its plain laws: Mem Words LeafA LeafB ShaR ShaL ShaI -/
import Derived.WalkKit
import Derived.WalkLawsBesides
import Derived.WalkSpells
import Derived.Deep.QuietTactic
import Derived.BigQuiet
import Derived.Deep.RegionWith
import Derived.Laws.CopyOwn
import Derived.Lib.SliceRun
import Derived.Test.YtfgmnbmnpihjdaaGreatDoorProg
import Derived.Lib.Mul64
import Derived.Laws.Bits64b
import Derived.Lib.EndianBits
set_option linter.all false
set_option exponentiation.threshold 7000000
set_option maxHeartbeats 1000000
namespace Go.Proofs.YtfgmnbmnpihjdaaGreatDoor
open Go.RowKit
theorem hide{p:Prop}(h:p):Hid p:=h
structure Mod(S:List Nat)(w w':World):Prop where
 os:w'.os=w.os
 tape:w'.tape=w.tape
 output:w'.output=w.output
 size:w.heap.size≤w'.heap.size
 block:∀k,k<w.heap.size→k∉S→w'.heap[k]? = w.heap[k]?
theorem Mod.refl(S:List Nat)(w:World):Mod S w w:=⟨rfl,rfl,rfl,Nat.le_refl _,fun _ _ _=>rfl⟩
theorem Mod.trans{S T U:List Nat}{a b c:World}(h:Mod S a b)(k:Mod T b c)(hS:∀x,x∈S→x<a.heap.size→x∈U)
 (hT:∀x,x∈T→x<a.heap.size→x∈U):Mod U a c:=
 ⟨k.os.trans h.os,k.tape.trans h.tape,k.output.trans h.output,Nat.le_trans h.size k.size,fun i hi hs=>
   (k.block i (Nat.lt_of_lt_of_le hi h.size) (fun ht=>hs (hT i ht hi))).trans (h.block i hi (fun ht=>hs (hS i ht hi)))⟩
theorem Mod.mono{S T:List Nat}{a b:World}(h:Mod S a b)(hT:∀x,x∈S→x<a.heap.size→x∈T):Mod T a b:=
 ⟨h.os,h.tape,h.output,h.size,fun i hi hs=>h.block i hi (fun ht=>hs (hT i ht hi))⟩
theorem Mod.drew{S:List Nat}{a b:World}(h:Mod S a b):Mod S a b.drew:=⟨h.os,h.tape,h.output,h.size,h.block⟩
theorem Mod.drewN{S:List Nat}{a b:World}(h:Mod S a b)(n:Nat):Mod S a (b.drewN n):=⟨h.os,h.tape,h.output,h.size,h.block⟩
theorem Mod.ofDrew{S:List Nat}{a b:World}(h:Mod S a.drew b):Mod S a b:=⟨h.os,h.tape,h.output,h.size,h.block⟩
theorem Mod.ofDrewN{S:List Nat}{a b:World}{n:Nat}(h:Mod S (a.drewN n) b):Mod S a b:=⟨h.os,h.tape,h.output,h.size,h.block⟩
theorem Mod.setCell{S:List Nat}{a b:World}(h:Mod S a b)(p:Addr)(u:Value)(hp:p.block<a.heap.size→p.block∈S):Mod S a (b.setCell p u):=
 ⟨h.os,h.tape,h.output,by simpa [World.setCell]using h.size,fun k hk hs=>
   (Below.heap_setCell _ _ _ _ (fun e=>hs (by rw[e];exact hp (by rw[←e];exact hk)))).trans (h.block k hk hs)⟩
theorem Mod.setRow{S:List Nat}{a b:World}(h:Mod S a b)(g:Nat)(cs:Array Value)(hp:g<a.heap.size→g∈S):Mod S a (b.setRow g cs):=
 ⟨h.os,h.tape,h.output,by simpa using h.size,fun k hk hs=>
   (setRow_other _ _ _ _ (fun e=>hs (by rw[e];exact hp (by rw[←e];exact hk)))).trans (h.block k hk hs)⟩
theorem Mod.alloc{S:List Nat}{a b:World}(h:Mod S a b)(o:Obj):Mod S a (b.alloc o):=
 ⟨h.os,h.tape,h.output,by have:=h.size;simp;omega,fun k hk hs=>(Below.heap_alloc _ _ _ (Nat.lt_of_lt_of_le hk h.size)).trans (h.block k hk hs)⟩
theorem Mod.below{a b:World}(h:Mod [] a b):Below a.heap.size a b:=⟨h.os,h.tape,h.output,h.size,fun k hk=>h.block k hk (by simp)⟩
def Blk(w:World)(b T:Nat)(vs:List Value):Prop:=w.heap[b]? = some (.cells vs.toArray T (0,0))
theorem Blk.cell{w:World}{b T:Nat}{vs:List Value}(h:Blk w b T vs)(i:Nat):w.cell? ⟨b,i,none⟩=vs[i]?:=by
 unfold World.cell?
 rw[show w.heap[(⟨b,i,none⟩:Addr).block]? = _ from h]
 simp
theorem Blk.frozen{w:World}{b T:Nat}{vs:List Value}(h:Blk w b T vs)(i:Nat):w.frozen? ⟨b,i,none⟩=false:=by
 unfold World.frozen?
 rw[show w.heap[(⟨b,i,none⟩:Addr).block]? = _ from h]
 simp
theorem Blk.lt{w:World}{b T:Nat}{vs:List Value}(h:Blk w b T vs):b<w.heap.size:=by
 unfold Blk at h
 rcases Nat.lt_or_ge b w.heap.size with h'|h'
 ·exact h'
 ·simp[Array.getElem?_eq_none h']at h
theorem Blk.setCell{w:World}{b T:Nat}{vs:List Value}(h:Blk w b T vs)(i:Nat)(v:Value):Blk (w.setCell ⟨b,i,none⟩ v) b T (vs.set i v):=by
 unfold Blk at *
 simp[World.setCell,Array.getElem?_modify,h]
theorem Blk.setCell_other{w:World}{b T:Nat}{vs:List Value}(h:Blk w b T vs)(p:Addr)(v:Value)(hp:b≠p.block):Blk (w.setCell p v) b T vs:=by
 unfold Blk at *
 rw[Below.heap_setCell _ _ _ _ hp,h]
theorem Blk.setRow{w:World}{b T:Nat}{vs:List Value}(h:Blk w b T vs)(us:List Value):Blk (w.setRow b us.toArray) b T us:=
 setRow_heap w b _ _ _ _ h
theorem Blk.setRow_other{w:World}{b T:Nat}{vs:List Value}(h:Blk w b T vs)(g:Nat)(cs:Array Value)(hp:b≠g):Blk (w.setRow g cs) b T vs:=by
 unfold Blk at *
 rw[Go.setRow_other _ _ _ _ hp,h]
theorem Blk.drew{w:World}{b T:Nat}{vs:List Value}(h:Blk w b T vs):Blk w.drew b T vs:=h
theorem Blk.drewN{w:World}{b T:Nat}{vs:List Value}(h:Blk w b T vs)(n:Nat):Blk (w.drewN n) b T vs:=h
theorem Blk.alloc{w:World}{b T:Nat}{vs:List Value}(h:Blk w b T vs)(o:Obj):Blk (w.alloc o) b T vs:=by
 have:=h.lt
 unfold Blk at *
 rw[Below.heap_alloc _ _ _ this,h]
theorem Blk.new(w:World)(T:Nat)(vs:List Value):Blk (w.alloc (.cells vs.toArray T)) w.heap.size T vs:=by
 unfold Blk
 exact heap_alloc_new w _
theorem Blk.mod{w w':World}{S:List Nat}{b T:Nat}{vs:List Value}(h:Blk w b T vs)(m:Mod S w w')(hb:b∉S):Blk w' b T vs:=by
 have:=h.lt
 unfold Blk at *
 rw[m.block b this hb,h]
theorem Blk.ext{w:World}{b T T':Nat}{vs us:List Value}(h:Blk w b T vs)(k:Blk w b T' us):T=T'∧vs=us:=by
 unfold Blk at *
 rw[h]at k
 simp at k
 exact⟨k.2,k.1⟩
theorem Blk.ne{w:World}{b c T U:Nat}{vs us:List Value}(h:Blk w b T vs)(k:Blk w c U us)(hTU:T≠U):b≠c:=by
 intro e
 subst e
 exact hTU (h.ext k).1
abbrev u64(n:Nat):Value:=.int .u64 (n:Int)
abbrev u8(n:Nat):Value:=.int .u8 (n:Int)
abbrev i64(n:Nat):Value:=.int .i64 (n:Int)
abbrev ptr(b:Nat):Value:=.pointer (some ⟨b,0,none⟩)
abbrev sl(b o n c:Nat):Value:=.slice (some ⟨b,o,none⟩) n c
def nth(L:List Nat)(i:Nat):Nat:=L.getD i 0
theorem nth_eq(L:List Nat)(i:Nat)(h:i<L.length):nth L i=L[i]:=by simp[nth,h]
theorem nth_append_left{L R:List Nat}{i:Nat}(h:i<L.length):nth (L++R) i=nth L i:=by simp[nth,h,List.getElem?_append_left h]
theorem nth_append_right{L R:List Nat}{i:Nat}(h:L.length≤i):nth (L++R) i=nth R (i-L.length):=by
 simp[nth,List.getElem?_append_right h]
theorem nth_set_same{L:List Nat}{i v:Nat}(h:i<L.length):nth (L.set i v) i=v:=by simp[nth,h]
theorem nth_set_ne{L:List Nat}{i j v:Nat}(h:i≠j):nth (L.set i v) j=nth L j:=by simp[nth,h]
theorem nth_replicate(n v i:Nat)(h:i<n):nth (List.replicate n v) i=v:=by simp[nth,h]
theorem nth_replicate0(n i:Nat):nth (List.replicate n 0) i=0:=by
 by_cases h:i<n
 ·exact nth_replicate n 0 i h
 ·simp[nth,h]
theorem nth_ge{L:List Nat}{i:Nat}(h:L.length≤i):nth L i=0:=by simp[nth,h]
theorem map_get{k:Nat→Value}{L:List Nat}{i:Nat}(h:i<L.length):(L.map k)[i]? = some (k (nth L i)):=by
 simp[nth,h]
theorem Blk.at{w:World}{b T:Nat}{k:Nat→Value}{L:List Nat}(h:Blk w b T (L.map k))(i:Nat)(hi:i<L.length) :
 w.cell? ⟨b,i,none⟩=some (k (nth L i)):=by rw[h.cell,map_get hi]
theorem Blk.set{w:World}{b T:Nat}{k:Nat→Value}{L:List Nat}(h:Blk w b T (L.map k))(i v:Nat) :
 Blk (w.setCell ⟨b,i,none⟩ (k v)) b T ((L.set i v).map k):=by
 have:=h.setCell i (k v)
 rwa [←List.map_set]at this
theorem madeCells_one(z:Value)(n:Nat):madeCells #[z] (n*1)=(List.replicate n z).toArray:=by
 apply Array.ext
 ·simp[madeCells]
 ·intro i h1 h2
  simp[madeCells,Nat.mod_one]
theorem run_make_row{P:Program}{t e:Nat}{z:Value}{B:Nat}(hz:z.cells=#[z])(ht:P.underlying t=some (.slice e))
 (hi:(P.info? e).map (fun i=>(i.zero,i.size,i.bytes))=some (some z,1,B)) (hB:B≤16) (n c:Nat) (hnc:n≤c) (hc:c≤17000000) (w:World) :
 (Instr.makeSlice t (.int .i64 n) (.int .i64 c)).run P w=.ok (sl w.heap.size 0 n c) (w.alloc (.cells (List.replicate c z).toArray e)):=by
 obtain⟨i,h1,h2,h3,h4⟩:=info_parts hi
 have hb:(B:Int)*(c:Int)≤281474976710656:=by
  have:B*c≤16*17000000:=Nat.mul_le_mul hB hc
  have:((B*c:Nat):Int)≤281474976710656:=by omega
  simpa using this
 have:=run_make (P:=P) w t e i z ht h1 h2 .i64 .i64 (n:Int) (c:Int) (by omega) (by omega) (by rw[h4];exact hb) (by omega)
 rw[this,h3,hz,Int.toNat_natCast,Int.toNat_natCast,madeCells_one]
def splice'(vs us:List Value)(o:Nat):List Value:=vs.take o++us++vs.drop (o+us.length)
theorem run_clear_row{P:Program}{t e ty T:Nat}{z:Value}(hz:z.cells=#[z])(h1:z.oneCell'=true)(ht:P.underlying t=some (.slice e))
 (hv:∀w,(zeroValue e).run P w=.ok z w) {w:World} {b:Nat} {vs:List Value} (hb:Blk w b T vs) (o n c:Nat) (hn:o+n≤vs.length) :
 (Builtin.clear_ #[t] ty #[sl b o n c]).run P w=.ok (.tuple #[]) (w.setRow b (splice' vs (List.replicate n z) o).toArray):=by
 by_cases hn0:n=0
 ·subst hn0
  have e:(splice' vs (List.replicate 0 z) o).toArray=vs.toArray:=by simp[splice']
  rw[e,setRow_self w b vs.toArray T (0,0) hb]
  simp[Builtin.clear_,run_underlying ht]
 ·have hzc:(Builtin.zeroCells z.cells n).toList=List.replicate n z:=by
   rw[hz]
   simp[Builtin.zeroCells]
   apply List.ext_getElem
   ·simp
   ·intro i h1 h2
    simp[Nat.mod_one]
  have hst:=run_storeCells_at P b o T (List.replicate n z) 0 vs.toArray w hb (by simpa using hn) (by intro v hv';rw[List.eq_of_mem_replicate hv'];exact h1)
  simp only[Nat.add_zero]at hst
  obtain⟨m,rfl⟩:∃m,n=m+1:=⟨n-1,by omega⟩
  simp only[splice']
  simp[Builtin.clear_,run_underlying ht,hv,hzc,hst]
theorem run_copy_cells{P:Program}{t t' ty e T:Nat}(ht:P.underlying t=some (.slice e))(hs:(P.info? e).map (·.size)=some 1)
 {w:World} {b:Nat} {vs us:List Value} (hb:Blk w b T vs) (o dn dc:Nat) (a:Addr) (sn sc:Nat) (hn:us.length=Nat.min sn dn)
 (hsrc:∀j v,us[j]? = some v→w.cell? (a.add j)=some v) (hfit:o+us.length≤vs.length) (h1:∀v∈us,v.oneCell'=true) :
 (Builtin.copy_ #[t,t'] ty #[sl b o dn dc,.slice (some a) sn sc]).run P w=.ok (goInt us.length) (w.setRow b (splice' vs us o).toArray):=by
 have h:=run_copy_row (P:=P) w t t' ty e b o dn dc a sn sc vs.toArray T us ht hs hb hn hsrc (by simpa using hfit) h1
 simpa [splice']using h
theorem add_addr(b o j:Nat):(⟨b,o,none⟩:Addr).add j=⟨b,o+j,none⟩:=by
 unfold Addr.add
 split<;>simp_all
theorem Blk.splice{w:World}{b T:Nat}{vs:List Value}(h:Blk w b T vs)(us:List Value)(o:Nat) :
 Blk (w.setRow b (splice' vs us o).toArray) b T (splice' vs us o):=h.setRow _
theorem splice_map(k:Nat→Value)(V U:List Nat)(o:Nat):splice' (V.map k) (U.map k) o=(V.take o++U++V.drop (o+U.length)).map k:=by
 simp[splice',List.map_take,List.map_drop]
theorem oneCell_map(k:Nat→Value)(hk:∀n,(k n).oneCell'=true)(L:List Nat):∀v∈L.map k,v.oneCell'=true:=by
 intro v hv
 obtain⟨n,_,rfl⟩:=List.mem_map.1 hv
 exact hk n
def W:Nat:=18446744073709551616
theorem W_eq:W=18446744073709551616:=rfl
theorem W_pos:0<W:=by rw[W_eq];omega
def addLo(x y c:Nat):Nat:=(x+y+c)%W
def addHi(x y c:Nat):Nat:=(x+y+c)/W
def subLo(x y c:Nat):Nat:=(x+W-y-c)%W
def subHi(x y c:Nat):Nat:=if x<y+c then 1 else 0
def mulLo(x y:Nat):Nat:=x*y%W
def mulHi(x y:Nat):Nat:=x*y/W
theorem addLo_lt(x y c:Nat):addLo x y c<W:=Nat.mod_lt _ W_pos
theorem subLo_lt(x y c:Nat):subLo x y c<W:=Nat.mod_lt _ W_pos
theorem mulLo_lt(x y:Nat):mulLo x y<W:=Nat.mod_lt _ W_pos
theorem addHi_le{x y c:Nat}(hx:x<W)(hy:y<W)(hc:c≤1):addHi x y c≤1:=by
 unfold addHi
 rw[W_eq]at *
 omega
theorem subHi_le(x y c:Nat):subHi x y c≤1:=by unfold subHi;split<;>omega
theorem add_eq(x y c:Nat):addLo x y c+W*addHi x y c=x+y+c:=Nat.mod_add_div _ _
theorem mul_eq(x y:Nat):mulLo x y+W*mulHi x y=x*y:=Nat.mod_add_div _ _
theorem sub_eq{x y c:Nat}(hx:x<W)(hy:y<W)(hc:c≤1):subLo x y c+y+c=x+W*subHi x y c:=by
 unfold subLo subHi
 rw[W_eq]at *
 split<;>omega
def eqB(x y:Nat):Nat:=if x=y then 1 else 0
theorem eqB_le(x y:Nat):eqB x y≤1:=by unfold eqB;split<;>omega
def blen(n:Nat):Nat:=if n=0 then 0 else Nat.log2 n+1
def val:List Nat→Nat
 | []=>0
 |x::l=>x+W*val l
def Words(L:List Nat):Prop:=∀i,i<L.length→nth L i<W
theorem val_cons(x:Nat)(l:List Nat):val (x::l)=x+W*val l:=rfl
theorem val_append(a b:List Nat):val (a++b)=val a+W^a.length*val b:=by
 induction a with
 |nil=>simp[val]
 |cons x a ih=>simp only[List.cons_append,val,ih,List.length_cons,Nat.pow_succ,Nat.mul_add,Nat.add_assoc,←Nat.mul_assoc,Nat.mul_comm (W^a.length) W]
theorem val_snoc(a:List Nat)(x:Nat):val (a++[x])=val a+W^a.length*x:=by simp[val_append,val]
theorem val_replicate0(n:Nat):val (List.replicate n 0)=0:=by
 induction n with
 |zero=>rfl
 |succ n ih=>simp[List.replicate_succ,val,ih]
theorem Words.nil:Words []:=by intro i hi;simp at hi
theorem words_mem{L:List Nat}:Words L↔∀x∈L,x<W:=by
 constructor
 ·intro h x hx
  obtain⟨i,hi,rfl⟩:=List.mem_iff_getElem.1 hx
  have:=h i hi
  rwa [nth_eq _ _ hi]at this
 ·intro h i hi
  rw[nth_eq _ _ hi]
  exact h _ (List.getElem_mem hi)
theorem Words.nth{L:List Nat}(h:Words L)(i:Nat):Go.Proofs.YtfgmnbmnpihjdaaGreatDoor.nth L i<W:=by
 by_cases hi:i<L.length
 ·exact h i hi
 ·rw[nth_ge (by omega)];exact W_pos
theorem Words.append{a b:List Nat}(ha:Words a)(hb:Words b):Words (a++b):=by
 rw[words_mem]at *
 intro x hx
 rcases List.mem_append.1 hx with h|h
 ·exact ha x h
 ·exact hb x h
theorem Words.set{a:List Nat}(ha:Words a)(i:Nat){v:Nat}(hv:v<W):Words (a.set i v):=by
 rw[words_mem]at *
 intro x hx
 rcases List.mem_or_eq_of_mem_set hx with h|h
 ·exact ha x h
 ·rw[h];exact hv
theorem Words.take{a:List Nat}(ha:Words a)(i:Nat):Words (a.take i):=by
 rw[words_mem]at *
 intro x hx
 exact ha x (List.mem_of_mem_take hx)
theorem Words.drop{a:List Nat}(ha:Words a)(i:Nat):Words (a.drop i):=by
 rw[words_mem]at *
 intro x hx
 exact ha x (List.mem_of_mem_drop hx)
theorem Words.replicate0(n:Nat):Words (List.replicate n 0):=by
 intro i hi
 rw[nth_replicate0];exact W_pos
theorem Words.cons{x:Nat}{l:List Nat}(hx:x<W)(h:Words l):Words (x::l):=by
 rw[words_mem]at *
 intro y hy
 rcases List.mem_cons.1 hy with h'|h'
 ·rw[h'];exact hx
 ·exact h y h'
theorem Words.tail{x:Nat}{l:List Nat}(h:Words (x::l)):x<W∧Words l:=by
 rw[words_mem]at h
 exact⟨h x (by simp),words_mem.2 fun y hy=>h y (by simp[hy])⟩
theorem val_lt{L:List Nat}(h:Words L):val L<W^L.length:=by
 induction L with
 |nil=>simp[val]
 |cons x l ih=>
  obtain⟨hx,hl⟩:=h.tail
  have:=ih hl
  simp only[val,List.length_cons,Nat.pow_succ]
  have h2:W*(val l+1)≤W*W^l.length:=Nat.mul_le_mul_left _ this
  rw[Nat.mul_comm (W^l.length)]
  rw[Nat.mul_add]at h2
  omega
theorem val_take_succ{L:List Nat}{i:Nat}(h:i<L.length):val (L.take (i+1))=val (L.take i)+W^i*nth L i:=by
 rw[List.take_succ_eq_append_getElem h,val_snoc,nth_eq _ _ h]
 simp[Nat.min_eq_left (Nat.le_of_lt h)]
theorem val_split(L:List Nat)(i:Nat)(h:i≤L.length):val L=val (L.take i)+W^i*val (L.drop i):=by
 conv=>lhs;rw[←List.take_append_drop i L]
 rw[val_append]
 simp[Nat.min_eq_left h]
def addEnt:Array Value→Sem Value:=(Extern.MathBitsCarry.rows[0]'(by decide)).2
def subEnt:Array Value→Sem Value:=(Extern.MathBitsCarry.rows[1]'(by decide)).2
theorem run_addEnt(P:Program)(x y c:Nat)(hc:c≤1)(w:World) :
 (addEnt #[u64 x,u64 y,u64 c]).run P w=.ok (.tuple #[u64 (addLo x y c),u64 (addHi x y c)]) w:=by
 have:c=0∨c=1:=by omega
 rcases this with rfl|rfl<;>rfl
theorem run_subEnt(P:Program)(x y c:Nat)(hc:c≤1)(w:World) :
 (subEnt #[u64 x,u64 y,u64 c]).run P w=.ok (.tuple #[u64 (subLo x y c),u64 (subHi x y c)]) w:=by
 have:c=0∨c=1:=by omega
 rcases this with rfl|rfl<;>rfl
theorem callAdd(x y c:Nat)(hc:c≤1)(w:World):(callFunc 151 #[u64 x,u64 y,u64 c]).run Tryz.prog w=.ok (.value (.tuple #[u64 (addLo x y c),u64 (addHi x y c)])) w:=by
 rw[run_callFunc_extern (e:=addEnt) Tryz.func151 (by kernel_rfl) (by kernel_rfl) (by kernel_rfl) (by kernel_rfl),run_addEnt _ _ _ _ hc];rfl
theorem callSub(x y c:Nat)(hc:c≤1)(w:World):(callFunc 149 #[u64 x,u64 y,u64 c]).run Tryz.prog w=.ok (.value (.tuple #[u64 (subLo x y c),u64 (subHi x y c)])) w:=by
 rw[run_callFunc_extern (e:=subEnt) Tryz.func149 (by kernel_rfl) (by kernel_rfl) (by kernel_rfl) (by kernel_rfl),run_subEnt _ _ _ _ hc];rfl
set_option maxRecDepth 100000 in
theorem c_Sub(x y b:Nat)(hb:b≤1)(w:World) :
 Calls Tryz.prog 138 #[u64 x,u64 y,u64 b] w fun e w'=>e=.returned (.tuple #[u64 (subLo x y b),u64 (subHi x y b)])∧w=w':=by
 have hs:=callSub x y b hb
 go_enter Tryz.func138,Tryz.ntmps138
 go_wp2
 go_ret2
 exact⟨rfl,rfl⟩
set_option maxRecDepth 100000 in
theorem c_Add(x y b:Nat)(hb:b≤1)(w:World) :
 Calls Tryz.prog 141 #[u64 x,u64 y,u64 b] w fun e w'=>e=.returned (.tuple #[u64 (addLo x y b),u64 (addHi x y b)])∧w=w':=by
 have hs:=callAdd x y b hb
 go_enter Tryz.func141,Tryz.ntmps141
 go_wp2
 go_ret2
 exact⟨rfl,rfl⟩
namespace Mul64
theorem maskN(a:Nat)(ha:a<18446744073709551616):bits .and .u64 (a:Int) 4294967295=((a%4294967296:Nat):Int):=by
 have h:=bits_and_u64_nat a 4294967295 ha (by omega)
 have e:a &&& 4294967295=a%4294967296:=Nat.and_two_pow_sub_one_eq_mod a 32
 rw[e]at h
 exact h
theorem divN(a:Nat):(a:Int)/4294967296=((a/4294967296:Nat):Int):=by omega
theorem mulN(a b:Nat):(a:Int)*(b:Int)=((a*b:Nat):Int):=(Int.natCast_mul a b).symm
theorem addN(a b:Nat):(a:Int)+(b:Int)=((a+b:Nat):Int):=(Int.natCast_add a b).symm
theorem wrapN(a:Nat)(ha:a<18446744073709551616):IntKind.u64.wrap (a:Int)=(a:Int):=by rw[IntKind.wrap_u64];omega
theorem wrapM(a:Nat):IntKind.u64.wrap (a:Int)=((a%18446744073709551616:Nat):Int):=by rw[IntKind.wrap_u64];omega
end Mul64
set_option maxRecDepth 100000 in
theorem c_Mul64(x y:Nat)(hx:x<W)(hy:y<W)(w:World) :
 Calls Tryz.prog 153 #[u64 x,u64 y] w fun e w'=>e=.returned (.tuple #[u64 (mulHi x y),u64 (mulLo x y)])∧w=w':=by
 unfold mulHi mulLo
 rw[W_eq]at *
 obtain⟨bd,bt,bw,hhi⟩:=Lib.mul64_hi x y hx hy
 have ba:=Lib.half_mul_le (a:=x/4294967296) (b:=y/4294967296) (by omega) (by omega)
 have bb:=Lib.half_mul_le (a:=x/4294967296) (b:=y%4294967296) (by omega) (by omega)
 have bc:=Lib.half_mul_le (a:=x%4294967296) (b:=y/4294967296) (by omega) (by omega)
 have ba':x/4294967296*(y/4294967296)<18446744073709551616:=by omega
 have bb':x/4294967296*(y%4294967296)<18446744073709551616:=by omega
 have bc':x%4294967296*(y/4294967296)<18446744073709551616:=by omega
 have bh1:x/4294967296*(y/4294967296)+(x/4294967296*(y%4294967296)+x%4294967296*(y%4294967296)/4294967296)/4294967296<18446744073709551616:=by omega
 have bh:x/4294967296*(y/4294967296)+(x/4294967296*(y%4294967296)+x%4294967296*(y%4294967296)/4294967296)/4294967296+((x/4294967296*(y%4294967296)+x%4294967296*(y%4294967296)/4294967296)%4294967296+x%4294967296*(y/4294967296))/4294967296<18446744073709551616:=by omega
 go_enter Tryz.func153,Tryz.ntmps153
 go_wp2
 simp only[Mul64.maskN x hx,Mul64.maskN y hy,Mul64.divN,Mul64.mulN,Mul64.addN,Mul64.wrapN _ bd,Mul64.wrapN _ bb',Mul64.wrapN _ bt,Mul64.maskN _ bt,Mul64.wrapN _ bc',Mul64.wrapN _ bw,Mul64.wrapN _ ba',Mul64.wrapN _ bh1,Mul64.wrapN _ bh,Mul64.wrapM (x*y)]
 rw[hhi]
 go_ret2
 exact⟨rfl,rfl⟩
set_option maxRecDepth 100000 in
theorem c_Mul(x y:Nat)(hx:x<W)(hy:y<W)(w:World) :
 Calls Tryz.prog 145 #[u64 x,u64 y] w fun e w'=>e=.returned (.tuple #[u64 (mulHi x y),u64 (mulLo x y)])∧w=w':=by
 go_enter Tryz.func145,Tryz.ntmps145
 go_wp2_with (go_at_call 153;refine(c_Mul64 x y hx hy _).mono ?_;rintro e w' ⟨rfl,rfl⟩)
 go_ret2
 exact⟨rfl,rfl⟩
def notB(c:Nat):Nat:=1-c
theorem notB_le(c:Nat):notB c≤1:=by unfold notB;omega
theorem xor_one{c:Nat}(hc:c≤1):bits .xor .u64 1 (c:Int)=((notB c:Nat):Int):=by
 have:c=0∨c=1:=by omega
 rcases this with rfl|rfl<;>decide +kernel
theorem or_bit{b c:Nat}(hb:b≤1)(hc:c≤1):bits .or .u64 (b:Int) (c:Int)=((max b c:Nat):Int):=by
 have:c=0∨c=1:=by omega
 have:b=0∨b=1:=by omega
 rcases this with rfl|rfl<;>rcases ‹c=0∨c=1› with rfl|rfl<;>decide +kernel
theorem and_bit{b c:Nat}(hb:b≤1)(hc:c≤1):bits .and .u64 (b:Int) (c:Int)=((min b c:Nat):Int):=by
 have:c=0∨c=1:=by omega
 have:b=0∨b=1:=by omega
 rcases this with rfl|rfl<;>rcases ‹c=0∨c=1› with rfl|rfl<;>decide +kernel
set_option maxRecDepth 100000 in
theorem c_not(c:Nat)(hc:c≤1)(w:World):Calls Tryz.prog 122 #[u64 c] w fun e w'=>e=.returned (u64 (notB c))∧w=w':=by
 have hx:=xor_one hc
 go_enter Tryz.func122,Tryz.ntmps122
 go_wp2
 go_ret
 exact⟨rfl,rfl⟩
def maskB(c:Nat):Nat:=if c=0 then 0 else W-1
theorem neg_bit{c:Nat}(hc:c≤1):IntKind.u64.wrap (-(c:Int))=((maskB c:Nat):Int):=by
 have:c=0∨c=1:=by omega
 rcases this with rfl|rfl<;>decide +kernel
set_option maxRecDepth 100000 in
theorem c_ctMask(c:Nat)(hc:c≤1)(w:World):Calls Tryz.prog 144 #[u64 c] w fun e w'=>e=.returned (u64 (maskB c))∧w=w':=by
 have hx:=neg_bit hc
 go_enter Tryz.func144,Tryz.ntmps144
 go_wp2
 go_ret
 exact⟨rfl,rfl⟩
theorem eq_of_subs(x y:Nat):notB (max (subHi x y 0) (subHi y x 0))=eqB x y:=by
 unfold notB subHi eqB
 split<;>split<;>split<;>omega
set_option maxRecDepth 100000 in
theorem c_ctEq(x y:Nat)(w:World):Calls Tryz.prog 121 #[u64 x,u64 y] w fun e w'=>e=.returned (u64 (eqB x y))∧w=w':=by
 have hx:=or_bit (subHi_le x y 0) (subHi_le y x 0)
 have hle:max (subHi x y 0) (subHi y x 0)≤1:=by have:=subHi_le x y 0;have:=subHi_le y x 0;omega
 have he:=hide (eq_of_subs x y)
 go_enter Tryz.func121,Tryz.ntmps121
 go_wp2_with fail
 refine(c_Sub x y 0 (by omega) _).mono ?_;rintro e w' ⟨rfl,rfl⟩
 go_wp2_with fail
 refine(c_Sub y x 0 (by omega) _).mono ?_;rintro e w' ⟨rfl,rfl⟩
 go_wp2_with fail
 refine(c_not _ hle _).mono ?_;rintro e w' ⟨rfl,rfl⟩
 go_wp2_with fail
 go_ret
 exact⟨by rw[he.out];rfl,rfl⟩
abbrev u32(n:Nat):Value:=.int .u32 (n:Int)
def Bytes(B:List Nat):Prop:=∀i,nth B i<256
def be4(B:List Nat)(o:Nat):Nat:=nth B (o+3)+nth B (o+2)*256+nth B (o+1)*65536+nth B o*16777216
def be8(B:List Nat)(o:Nat):Nat:=be4 B o*4294967296+be4 B (o+4)
theorem be4_lt{B:List Nat}(hB:Bytes B)(o:Nat):be4 B o<4294967296:=by
 unfold be4
 have:=hB o;have:=hB (o+1);have:=hB (o+2);have:=hB (o+3)
 omega
theorem be8_lt{B:List Nat}(hB:Bytes B)(o:Nat):be8 B o<W:=by
 unfold be8
 have:=be4_lt hB o;have:=be4_lt hB (o+4)
 rw[W_eq]
 omega
theorem be4_or(a b c d:Nat)(ha:a<256)(hb:b<256)(hc:c<256)(hd:d<256) :
 bits .or .u32 (bits .or .u32 (bits .or .u32 (d:Int) ((c:Int)*256)) ((b:Int)*65536)) ((a:Int)*16777216)=((d+c*256+b*65536+a*16777216:Nat):Int):=by
 rw[u32_or8 (d:Int) ((c:Int)*256) (by omega) (by omega) (by omega) (by omega) (by omega),u32_or16 ((d:Int)+(c:Int)*256) ((b:Int)*65536) (by omega) (by omega) (by omega) (by omega) (by omega),
  u32_or24 ((d:Int)+(c:Int)*256+(b:Int)*65536) ((a:Int)*16777216) (by omega) (by omega) (by omega) (by omega) (by omega)]
 omega
theorem ret_i64{a b:Nat}(h:a=b):Ending.returned (i64 a)=Ending.returned (i64 b):=by rw[h]
theorem ret_u64{a b:Nat}(h:a=b):Ending.returned (u64 a)=Ending.returned (u64 b):=by rw[h]
theorem blen_zero:blen 0=0:=rfl
theorem blen_half{n:Nat}(h:n≠0):blen n=blen (n/2)+1:=by
 unfold blen
 rw[if_neg h]
 by_cases h1:n/2=0
 ·rw[if_pos h1]
  have:n=1:=by omega
  subst this
  rfl
 ·rw[if_neg h1]
  rw[Nat.log2_def]
  rw[if_pos (by omega)]
theorem blen_le{n k:Nat}(h:n<2^k):blen n≤k:=by
 unfold blen
 split
 ·omega
 ·rename_i h0
  have:=(Nat.log2_lt h0).2 h
  omega
theorem blen_word{n:Nat}(h:n<W):blen n≤64:=blen_le (by rw[W_eq]at h;simpa using h)
theorem blen_pos{n:Nat}(h:n≠0):1≤blen n:=by rw[blen_half h];omega
set_option maxRecDepth 100000 in
theorem c_bitLen(n:Nat)(hn:n<W)(w:World) :
 Calls Tryz.prog 136 #[u64 n] w fun e w'=>e=.returned (i64 (blen n))∧w=w':=by
 have h64:=blen_word hn
 go_enter Tryz.func136,Tryz.ntmps136
 go_wp2
 go_loop [0,3] (fun a l=>∃m k:Nat,a=u64 m∧l=i64 k∧Hid (blen n=k+blen m)∧k≤64) (fun a _=>(intOf a).toNat)
 case atStart=>exact⟨n,0,rfl,rfl,hide (by omega),by omega⟩
 case round=>
  obtain⟨m,k,rfl,rfl,hk,hk64⟩:=hrel
  by_cases h0:m=0
  ·subst h0
   have:=hk.out
   have hb:blen n=k:=by rw[this,blen_zero];omega
   have H:=hide hb
   clear this hb
   go_wp2
   go_ret
   exact⟨ret_i64 H.out.symm,rfl⟩
  ·have h1:=hk.out
   have hh:=blen_half h0
   have hm:((m:Int) != 0)=true:=by simpa using h0
   have hk':k<64:=by omega
   have H:Hid (blen n=(k+1)+blen (m/2)):=hide (by omega)
   have hlt:Hid (m/2<m):=hide (by omega)
   clear h1 hh hk
   go_wp2
   go_round
   case rel=>exact⟨m/2,k+1,by first|rfl|(simp;done),by go_num,H,by omega⟩
   case measure=>have:=hlt.out;simp[intOf];omega
def nstep(x y:Nat):Nat:=y*((W+2-x*y%W)%W)%W
def newton(x:Nat):Nat→Nat
 |0=>x
 |k+1=>nstep x (newton x k)
def m0inv(x:Nat):Nat:=(W-newton x 5)%W
theorem newton_lt{x:Nat}(hx:x<W)(k:Nat):newton x k<W:=by
 cases k with
 |zero=>exact hx
 |succ k=>exact Nat.mod_lt _ W_pos
theorem wrapW(a:Nat):IntKind.u64.wrap (a:Int)=((a%W:Nat):Int):=by rw[IntKind.wrap_u64,W_eq];omega
theorem wrap_two{z:Nat}(h:z<W):IntKind.u64.wrap (2-(z:Int))=(((W+2-z)%W:Nat):Int):=by
 rw[IntKind.wrap_u64]
 rw[W_eq]at *
 omega
theorem newton_step(x y:Nat):IntKind.u64.wrap ((y:Int)*IntKind.u64.wrap (2-IntKind.u64.wrap ((x:Int)*(y:Int))))=((nstep x y:Nat):Int):=by
 rw[←Int.natCast_mul,wrapW,wrap_two (Nat.mod_lt _ W_pos),←Int.natCast_mul,wrapW]
 rfl
theorem neg_word{y:Nat}(hy:y<W):IntKind.u64.wrap (-(y:Int))=(((W-y)%W:Nat):Int):=by
 rw[IntKind.wrap_u64]
 rw[W_eq]at *
 omega
theorem neg_newton{x:Nat}(hx:x<W):IntKind.u64.wrap (-(newton x 5:Int))=((m0inv x:Nat):Int):=neg_word (newton_lt hx 5)
set_option maxRecDepth 100000 in
theorem c_minusInverse(x:Nat)(hx:x<W)(w:World) :
 Calls Tryz.prog 134 #[u64 x] w fun e w'=>e=.returned (u64 (m0inv x))∧w=w':=by
 have HX:=hide hx
 clear hx
 go_enter Tryz.func134,Tryz.ntmps134
 go_wp2
 go_loop [3,4] (fun y i=>∃k:Nat,k≤5∧i=i64 k∧y=u64 (newton x k)) (fun _ i=>5-(intOf i).toNat)
 case atStart=>exact⟨0,by omega,rfl,rfl⟩
 case round=>
  obtain⟨k,hk,rfl,rfl⟩:=hrel
  by_cases hlt:k<5
  ·have hs:=newton_step x (newton x k)
   go_wp2
   go_round
   case rel=>exact⟨k+1,by omega,by go_num,rfl⟩
   case measure=>simp[intOf];omega
  ·obtain rfl:k=5:=by omega
   have hng:=neg_newton HX.out
   clear hlt hk
   go_wp2
   go_ret
   exact⟨rfl,rfl⟩
theorem and_mask(z:Int)(m:Nat)(hm:m<2^64):∃s:Nat,bits .and .u64 z (m:Int)=(s:Int)∧s≤m:=by
 have h2:(BitVec.ofInt 64 (m:Int)).toNat=m:=by
  rw[BitVec.ofInt_natCast,BitVec.toNat_ofNat];exact Nat.mod_eq_of_lt hm
 have h3:(BitVec.ofInt 64 z &&& BitVec.ofInt 64 (m:Int)).toNat≤m:=by
  rw[BitVec.toNat_and,h2];exact Nat.and_le_right
 refine⟨(BitVec.ofInt 64 z &&& BitVec.ofInt 64 (m:Int)).toNat,?_,h3⟩
 show IntKind.u64.wrap ((BitVec.ofInt 64 z &&& BitVec.ofInt 64 (m:Int)).toNat:Int)=_
 generalize (BitVec.ofInt 64 z &&& BitVec.ofInt 64 (m:Int)).toNat=s at *
 rw[IntKind.wrap_u64]
 omega
def rotS(m:Int)(k:Int):Nat:=(bits .and .u64 (IntKind.u64.wrap k) m).toNat
def rot32(k x:Int):Int:=bits .or .u32 (x*2^rotS 31 k%4294967296) (x/2^(32-rotS 31 k))
def rot64(k x:Int):Int:=bits .or .u64 (x*2^rotS 63 k%18446744073709551616) (x/2^(64-rotS 63 k))
set_option maxRecDepth 100000 in
theorem c_rot32(x k:Int)(w:World) :
 Calls Tryz.prog 186 #[.int .u32 x,.int .i64 k] w fun e w'=>w=w'∧e=.returned (.int .u32 (rot32 k x)):=by
 obtain⟨s,hs,hb⟩:=and_mask (IntKind.u64.wrap k) 31 (by decide)
 have e1:bits .and .u64 (IntKind.u64.wrap k) 31=(s:Int):=hs
 have e2:s=rotS 31 k:=by unfold rotS;rw[e1];rfl
 unfold rot32
 rw[←e2]
 clear hs e2
 go_enter Tryz.func186,Tryz.ntmps186
 go_wp2_with fail
 go_ret
 exact⟨rfl,rfl⟩
set_option maxRecDepth 100000 in
theorem c_rot64(x k:Int)(w:World) :
 Calls Tryz.prog 195 #[.int .u64 x,.int .i64 k] w fun e w'=>w=w'∧e=.returned (.int .u64 (rot64 k x)):=by
 obtain⟨s,hs,hb⟩:=and_mask (IntKind.u64.wrap k) 63 (by decide)
 have e1:bits .and .u64 (IntKind.u64.wrap k) 63=(s:Int):=hs
 have e2:s=rotS 63 k:=by unfold rotS;rw[e1];rfl
 unfold rot64
 rw[←e2]
 clear hs e2
 go_enter Tryz.func195,Tryz.ntmps195
 go_wp2_with fail
 go_ret
 exact⟨rfl,rfl⟩
theorem c_rot32q(x k:Int)(w:World):Calls Tryz.prog 186 #[.int .u32 x,.int .i64 k] w fun e w'=>e=.returned (.int .u32 (rot32 k x))∧w'=w:=
 (c_rot32 x k w).mono fun _ _ ⟨h,k⟩=>⟨k,h.symm⟩
theorem c_rot64q(x k:Int)(w:World):Calls Tryz.prog 195 #[.int .u64 x,.int .i64 k] w fun e w'=>e=.returned (.int .u64 (rot64 k x))∧w'=w:=
 (c_rot64 x k w).mono fun _ _ ⟨h,k⟩=>⟨k,h.symm⟩
attribute [irreducible] rot32 rot64
def be256i(b0 b1 b2 b3:Nat):Int:=bits .or .u32 (bits .or .u32 (bits .or .u32 (IntKind.u32.wrap (IntKind.u32.wrap (b0:Int)*16777216)) (IntKind.u32.wrap (IntKind.u32.wrap (b1:Int)*65536))) (IntKind.u32.wrap (IntKind.u32.wrap (b2:Int)*256))) (IntKind.u32.wrap (b3:Int))
def be512i(b0 b1 b2 b3 b4 b5 b6 b7:Nat):Int:=bits .or .u64 (bits .or .u64 (bits .or .u64 (bits .or .u64 (bits .or .u64 (bits .or .u64 (bits .or .u64 (IntKind.u64.wrap (IntKind.u64.wrap (b0:Int)*72057594037927936)) (IntKind.u64.wrap (IntKind.u64.wrap (b1:Int)*281474976710656))) (IntKind.u64.wrap (IntKind.u64.wrap (b2:Int)*1099511627776))) (IntKind.u64.wrap (IntKind.u64.wrap (b3:Int)*4294967296))) (IntKind.u64.wrap (IntKind.u64.wrap (b4:Int)*16777216))) (IntKind.u64.wrap (IntKind.u64.wrap (b5:Int)*65536))) (IntKind.u64.wrap (IntKind.u64.wrap (b6:Int)*256))) (IntKind.u64.wrap (b7:Int))
def cut(B:List Nat)(o n:Nat):List Nat:=(List.range n).map fun j=>nth B (o+j)
theorem cut_length(B:List Nat)(o n:Nat):(cut B o n).length=n:=by simp[cut]
theorem nth_cut{B:List Nat}{o n j:Nat}(h:j<n):nth (cut B o n) j=nth B (o+j):=by simp[nth,cut,h]
theorem cut_congr{B B':List Nat}{o o' n:Nat}(h:∀j,j<n→nth B (o+j)=nth B' (o'+j)):cut B o n=cut B' o' n:=by
 unfold cut
 apply List.map_congr_left
 intro j hj
 exact h j (List.mem_range.1 hj)
theorem list_ext{A B:List Nat}(hl:A.length=B.length)(h:∀i,i<A.length→nth A i=nth B i):A=B:=by
 apply List.ext_getElem hl
 intro i h1 h2
 have:=h i h1
 rwa [nth_eq _ _ h1,nth_eq _ _ h2]at this
def runH(F:List Int→List Nat→List Int)(C:Nat)(h:List Int)(B:List Nat)(o:Nat):Nat→List Int
 |0=>h
 |n+1=>F (runH F C h B o n) (cut B (o+C*n) C)
theorem runH_congr{F:List Int→List Nat→List Int}{C:Nat}{h:List Int}{B B':List Nat}{o o':Nat}:∀{n:Nat},(∀j,j<C*n→nth B (o+j)=nth B' (o'+j))→runH F C h B o n=runH F C h B' o' n
 |0,_=>rfl
 |n+1,hh=>by
  rw[runH,runH,runH_congr (n:=n) fun j hj=>hh j (by rw[Nat.mul_succ];omega)]
  rw[cut_congr (B:=B) (B':=B') (o:=o+C*n) (o':=o'+C*n) fun j hj=>?_]
  rw[Nat.add_assoc,Nat.add_assoc]
  exact hh _ (by rw[Nat.mul_succ];omega)
theorem runH_add(F:List Int→List Nat→List Int)(C:Nat)(h:List Int)(B:List Nat)(o a:Nat):∀b,runH F C h B o (a+b)=runH F C (runH F C h B o a) B (o+C*a) b
 |0=>rfl
 |b+1=>by
  rw[←Nat.add_assoc,runH,runH,runH_add F C h B o a b,Nat.mul_add,←Nat.add_assoc]
theorem runH_length{F:List Int→List Nat→List Int}{C m:Nat}(hF:∀h L,(F h L).length=m){h:List Int}(hh:h.length=m)(B:List Nat)(o:Nat):∀n,(runH F C h B o n).length=m
 |0=>hh
 |n+1=>hF _ _
def stH(F:List Int→List Nat→List Int)(C:Nat)(h:List Int)(M:List Nat):List Int:=runH F C h M 0 (M.length/C)
def restH(C:Nat)(M:List Nat):List Nat:=M.drop (C*(M.length/C))
theorem nth_drop(M:List Nat)(d i:Nat):nth (M.drop d) i=nth M (d+i):=by simp[nth]
theorem st_small{F:List Int→List Nat→List Int}{C:Nat}{h:List Int}{M p:List Nat}(hl:M.length%C+p.length<C) :
 stH F C h (M++p)=stH F C h M∧restH C (M++p)=restH C M++p:=by
 have hdm:=Nat.div_add_mod M.length C
 have hC:0<C:=by omega
 have hd:(M++p).length/C=M.length/C:=by
  rw[List.length_append]
  refine Nat.div_eq_of_lt_le ?_ ?_
  ·rw[Nat.mul_comm];omega
  ·rw[Nat.mul_comm,Nat.mul_succ];omega
 refine⟨?_,?_⟩
 ·unfold stH
  rw[hd]
  refine runH_congr fun j hj=>?_
  rw[Nat.zero_add]
  exact nth_append_left (by omega)
 ·unfold restH
  rw[hd,List.drop_append_of_le_length (by omega)]
theorem st_blocks{F:List Int→List Nat→List Int}{C:Nat}{h:List Int}{M p:List Nat}(hC:0<C)(hM:M.length%C=0) :
 stH F C h (M++p)=runH F C (stH F C h M) p 0 (p.length/C)∧restH C (M++p)=p.drop (C*(p.length/C)):=by
 have hdm:=Nat.div_add_mod M.length C
 have hd:(M++p).length/C=M.length/C+p.length/C:=by
  rw[List.length_append,show M.length+p.length=p.length+C*(M.length/C)by omega,Nat.add_mul_div_left _ _ hC,Nat.add_comm]
 refine⟨?_,?_⟩
 ·unfold stH
  rw[hd,runH_add]
  rw[runH_congr (B:=M++p) (B':=M) (o:=0) (o':=0) (n:=M.length/C) fun j hj=>nth_append_left (by omega)]
  refine runH_congr fun j hj=>?_
  rw[nth_append_right (by omega)]
  congr 1
  omega
 ·unfold restH
  rw[hd,Nat.mul_add,show C*(M.length/C)=M.length by omega,List.drop_append,List.drop_eq_nil_of_le (by omega),List.nil_append]
  congr 1
  omega
theorem st_fill{F:List Int→List Nat→List Int}{C:Nat}{h:List Int}{M p:List Nat}(hl:C≤M.length%C+p.length)(hC:0<C)(X:List Nat)
 (hX1:∀j,j<M.length%C→nth X j=nth M (C*(M.length/C)+j)) (hX2:∀j,M.length%C≤j→j<C→nth X j=nth p (j-M.length%C)) :
 stH F C h (M++p.take (C-M.length%C))=runH F C (stH F C h M) X 0 1∧(M++p.take (C-M.length%C)).length%C=0:=by
 have hdm:=Nat.div_add_mod M.length C
 have hmlt:=Nat.mod_lt M.length hC
 have hlen:(M++p.take (C-M.length%C)).length=C*(M.length/C+1):=by
  rw[List.length_append,List.length_take,Nat.mul_succ]
  omega
 have hd:(M++p.take (C-M.length%C)).length/C=M.length/C+1:=by rw[hlen,Nat.mul_div_cancel_left _ hC]
 refine⟨?_,by rw[hlen,Nat.mul_mod_right]⟩
 unfold stH
 rw[hd,runH_add]
 rw[runH_congr (B:=M++p.take (C-M.length%C)) (B':=M) (o:=0) (o':=0) (n:=M.length/C) fun j hj=>nth_append_left (by omega)]
 refine runH_congr fun j hj=>?_
 rw[Nat.mul_one]at hj
 rw[Nat.zero_add,Nat.zero_add]
 by_cases hj2:j<M.length%C
 ·rw[nth_append_left (by omega),hX1 j hj2]
 ·rw[nth_append_right (by omega),hX2 j (by omega) hj,show C*(M.length/C)+j-M.length=j-M.length%C by omega]
  have:j-M.length%C<C-M.length%C:=by omega
  simp[nth,this]
def startsAt(n:Nat):Code→Bool
 | .region m _ _=>m == n
 | .seq a _=>startsAt n a
 |_=>false
def findAt(n:Nat):Code→Option Code
 | .seq a b=>if startsAt n b then some b else match findAt n b with
   |some c=>some c
   |none=>findAt n a
 | .block _ c=>findAt n c
 | .loop c=>findAt n c
 | .cond _ a b=>match findAt n a with
   |some c=>some c
   |none=>findAt n b
 |_=>none
def ith(L:List Int)(i:Nat):Int:=L.getD i 0
abbrev v32(z:Int):Value:=.int .u32 z
abbrev v64(z:Int):Value:=.int .u64 z
theorem map_geti{k:Int→Value}{L:List Int}{i:Nat}(h:i<L.length):(L.map k)[i]? = some (k (ith L i)):=by simp[ith,h]
theorem Blk.ati{w:World}{b T:Nat}{k:Int→Value}{L:List Int}(h:Blk w b T (L.map k))(i:Nat)(hi:i<L.length) :
 w.cell? ⟨b,i,none⟩=some (k (ith L i)):=by rw[h.cell,map_geti hi]
theorem Blk.atl{w:World}{b T:Nat}{k:Int→Value}{L:List Int}{R:List Value}(h:Blk w b T (L.map k++R))(i:Nat)(hi:i<L.length) :
 w.cell? ⟨b,i,none⟩=some (k (ith L i)):=by rw[h.cell,List.getElem?_append_left (by simpa using hi),map_geti hi]
theorem Blk.seti{w:World}{b T:Nat}{k:Int→Value}{L:List Int}(h:Blk w b T (L.map k))(i:Nat)(v:Int) :
 Blk (w.setCell ⟨b,i,none⟩ (k v)) b T ((L.set i v).map k):=by
 have:=h.setCell i (k v)
 rwa [←List.map_set]at this
theorem ith_set_same{L:List Int}{i:Nat}{v:Int}(h:i<L.length):ith (L.set i v) i=v:=by simp[ith,h]
theorem ith_set_ne{L:List Int}{i j:Nat}{v:Int}(h:i≠j):ith (L.set i v) j=ith L j:=by simp[ith,h]
theorem ith_append_left{L R:List Int}{i:Nat}(h:i<L.length):ith (L++R) i=ith L i:=by simp[ith,h,List.getElem?_append_left h]
theorem ith_append_at{L:List Int}{v:Int}:ith (L++[v]) L.length=v:=by simp[ith]
theorem cell_up0{w w':World}{k i:Nat}{v:Value}(h:w.cell? ⟨k,i,none⟩=some v)(m:Mod [] w w'):w'.cell? ⟨k,i,none⟩=some v:=by
 have hlt:k<w.heap.size:=block_lt_of_cell h
 rw[←h]
 exact World.cell?_of_block (w:=w) (m.block k hlt (by simp))
theorem cell_apart{w:World}{k i b j:Nat}{v x:Value}(h:w.cell? ⟨k,i,none⟩=some v)(hk:k≠b):(w.setCell ⟨b,j,none⟩ x).cell? ⟨k,i,none⟩=some v:=by
 rw[←h]
 exact World.cell?_setCell_other _ _ _ _ (fun e=>hk (congrArg Addr.block e).symm)
theorem cell_beside{w:World}{b i j:Nat}{v x:Value}(h:w.cell? ⟨b,i,none⟩=some v)(hk:i≠j):(w.setCell ⟨b,j,none⟩ x).cell? ⟨b,i,none⟩=some v:=by
 rw[←h]
 exact World.cell?_setCell_other _ _ _ _ (fun e=>hk (congrArg Addr.off e).symm)
theorem list8{L:List Int}(h:L.length=8):L=[ith L 0,ith L 1,ith L 2,ith L 3,ith L 4,ith L 5,ith L 6,ith L 7]:=by
 obtain⟨a,b,c,d,e,f,g,i,rfl⟩:∃a b c d e f g i,L=[a,b,c,d,e,f,g,i]:=by
  match L,h with
  | [a,b,c,d,e,f,g,i],_=>exact⟨a,b,c,d,e,f,g,i,rfl⟩
 rfl
theorem Mod.then1{a b c:World}{S:List Nat}(h:Mod [] a b)(k:Mod S b c):Mod S a c:=h.trans k (by simp) (fun _ h _=>h)
def put8(w:World)(d:Nat)(k:Int→Value)(z0 z1 z2 z3 z4 z5 z6 z7:Int):World:=((((((((w.setCell ⟨d,0,none⟩ (k z0)).setCell ⟨d,1,none⟩ (k z1)).setCell ⟨d,2,none⟩ (k z2)).setCell ⟨d,3,none⟩ (k z3)).setCell ⟨d,4,none⟩ (k z4)).setCell ⟨d,5,none⟩ (k z5)).setCell ⟨d,6,none⟩ (k z6)).setCell ⟨d,7,none⟩ (k z7))
theorem put8_mod(w:World)(d:Nat)(k:Int→Value)(z0 z1 z2 z3 z4 z5 z6 z7:Int):Mod [d] w (put8 w d k z0 z1 z2 z3 z4 z5 z6 z7):=
 ((((((((Mod.refl [d] w).setCell _ _ (by simp)).setCell _ _ (by simp)).setCell _ _ (by simp)).setCell _ _ (by simp)).setCell _ _ (by simp)).setCell _ _ (by simp)).setCell _ _ (by simp)).setCell _ _ (by simp)
theorem set_row8(k:Int→Value)(a0 a1 a2 a3 a4 a5 a6 a7 z0 z1 z2 z3 z4 z5 z6 z7:Int)(R:List Value) :
 (((((((([a0,a1,a2,a3,a4,a5,a6,a7].map k++R).set 0 (k z0)).set 1 (k z1)).set 2 (k z2)).set 3 (k z3)).set 4 (k z4)).set 5 (k z5)).set 6 (k z6)).set 7 (k z7)=[z0,z1,z2,z3,z4,z5,z6,z7].map k++R:=rfl
theorem put8_blk{w:World}{d T:Nat}{k:Int→Value}{hs:List Int}{R:List Value}(h:Blk w d T (hs.map k++R))(lh:hs.length=8)(z0 z1 z2 z3 z4 z5 z6 z7:Int) :
 Blk (put8 w d k z0 z1 z2 z3 z4 z5 z6 z7) d T ([z0,z1,z2,z3,z4,z5,z6,z7].map k++R):=by
 rw[←set_row8 k (ith hs 0) (ith hs 1) (ith hs 2) (ith hs 3) (ith hs 4) (ith hs 5) (ith hs 6) (ith hs 7),←list8 lh]
 exact(((((((h.setCell 0 _).setCell 1 _).setCell 2 _).setCell 3 _).setCell 4 _).setCell 5 _).setCell 6 _).setCell 7 _
end Go.Proofs.YtfgmnbmnpihjdaaGreatDoor
