/- Lemmas of mine for the walk and its plain laws: HzA HzB HzC HzD HzE -/
import Derived.Test.YtfgmnbmnpihjdaaGreatDoorM15
import Derived.Test.YtfgmnbmnpihjdaaGreatDoorM02
import Derived.Deep.Onto
import Derived.Deep.DeepCutAuto
import Derived.Deep.RegionHeld3
import Derived.Test.YtfgmnbmnpihjdaaGreatDoorM17
set_option linter.all false
set_option exponentiation.threshold 7000000
set_option maxHeartbeats 4000000
namespace Go.Proofs.YtfgmnbmnpihjdaaGreatDoor
open Go.RowKit
def OwnI(k:Int→Value)(T:Nat)(w:World)(base:Nat)(v:Value)(L:List Int):Prop:=w.ownsRow base T 1 v L.length (L.map k)
def SliceI(k:Int→Value)(w:World)(v:Value)(L:List Int):Prop:=∃b o c,v=sl b o L.length c∧L.length≤c∧∀i,i<L.length→w.cell? ⟨b,o+i,none⟩=some (k (ith L i))
theorem OwnI.blk{k:Int→Value}{T:Nat}{w:World}{base:Nat}{v:Value}{L:List Int}(h:OwnI k T w base v L) :
 (v=.slice none 0 0∧L=[])∨∃g cap rest,v=sl g 0 L.length cap∧base≤g∧Blk w g T (L.map k++rest)∧L.length+rest.length=cap∧cap≤maxLen:=by
 obtain⟨h1,h2⟩:=h
 rcases h2 with⟨rfl,h0⟩|⟨g,cap,cur,rfl,hb,hg,hc,hm,hs,ht⟩
 ·exact .inl ⟨rfl,List.eq_nil_of_length_eq_zero h0⟩
 ·refine .inr ⟨g,cap,cur.toList.drop L.length,rfl,hb,?_,?_,hm⟩
  ·unfold Blk
   rw[←ht,Nat.mul_one,List.take_append_drop]
   simpa using hg
  ·simp only[List.length_drop,Array.length_toList];omega
theorem OwnI.ofBlk{k:Int→Value}{T:Nat}{w:World}{base g cap:Nat}{L:List Int}{rest:List Value}(hb:base≤g)(h:Blk w g T (L.map k++rest))(hc:L.length+rest.length=cap)(hm:cap≤maxLen) :
 OwnI k T w base (sl g 0 L.length cap) L:=by
 refine⟨by simp,.inr ⟨g,cap,(L.map k++rest).toArray,rfl,hb,h,by omega,hm,by simp;omega,?_⟩⟩
 simp only[Nat.mul_one]
 rw[List.take_append_of_le_length (by simp),List.take_of_length_le (by simp)]
theorem OwnI.lt{k:Int→Value}{T:Nat}{w:World}{base:Nat}{v:Value}{L:List Int}(h:OwnI k T w base v L):∀b o n c,v=sl b o n c→base≤b∧b<w.heap.size:=by
 intro b o n c e
 exact World.ownsRow.lt h b (by rw[e];rfl)
theorem OwnI.mod{k:Int→Value}{T:Nat}{w w':World}{base:Nat}{v:Value}{L:List Int}{S:List Nat}(h:OwnI k T w base v L)(m:Mod S w w')(hS:∀x,x∈S→Apart v x):OwnI k T w' base v L:=by
 rcases h.blk with⟨rfl,rfl⟩|⟨g,cap,rest,rfl,hb,hg,hc,hm⟩
 ·exact⟨rfl,.inl ⟨rfl,rfl⟩⟩
 ·exact OwnI.ofBlk hb (hg.mod m (fun hx=>hS g hx _ _ _ _ rfl rfl)) hc hm
theorem OwnI.nil(k:Int→Value)(T:Nat)(w:World)(base:Nat):OwnI k T w base (.slice none 0 0) []:=⟨rfl,.inl ⟨rfl,rfl⟩⟩
theorem OwnI.lit{k:Int→Value}{T:Nat}{w:World}{base:Nat}{v:Value}{L:List Int}(h:OwnI k T w base v L):∃a c,v=.slice a L.length c:=by
 rcases h.blk with⟨rfl,rfl⟩|⟨g,cap,rest,rfl,hb,hg,hc,hm⟩
 ·exact⟨_,_,rfl⟩
 ·exact⟨_,_,rfl⟩
theorem OwnI.slice{k:Int→Value}{T:Nat}{w:World}{base:Nat}{v:Value}{L:List Int}(h:OwnI k T w base v L)(h0:0<L.length):∃g c,v=sl g 0 L.length c∧base≤g∧L.length≤c∧∀i,i<L.length→w.cell? ⟨g,i,none⟩=some (k (ith L i)):=by
 rcases h.blk with⟨rfl,rfl⟩|⟨g,cap,rest,rfl,hb,hg,hc,hm⟩
 ·simp at h0
 ·refine⟨g,cap,rfl,hb,by omega,fun i hi=>hg.atl i hi⟩
theorem OwnI.sliceI{k:Int→Value}{T:Nat}{w:World}{base:Nat}{v:Value}{L:List Int}(h:OwnI k T w base v L)(h0:0<L.length):SliceI k w v L:=by
 obtain⟨g,c,rfl,_,hc,h⟩:=h.slice h0
 exact⟨g,0,c,rfl,hc,fun i hi=>by rw[Nat.zero_add];exact h i hi⟩
theorem SliceI.mod{k:Int→Value}{w w':World}{S:List Nat}{v:Value}{L:List Int}(h:SliceI k w v L)(m:Mod S w w')(hS:∀x,x∈S→Apart v x):SliceI k w' v L:=by
 obtain⟨b,o,c,rfl,hc,hb⟩:=h
 exact⟨b,o,c,rfl,hc,fun i hi=>by
  rw[←hb i hi]
  exact World.cell?_of_block (m.block b (block_lt_of_cell (hb i hi)) (fun hx=>hS b hx _ _ _ _ rfl rfl))⟩
theorem SliceI.up{k:Int→Value}{w w':World}{v:Value}{L:List Int}(h:SliceI k w v L)(m:Mod [] w w'):SliceI k w' v L:=h.mod m (by simp)
theorem wpl_pushI{ops:Array Oper}{rest:List Oper}{o:Oper}{a:Act}{Q:Exit→Act→World→Prop}{w:World}(hgd:o.guard=none)(s x:Operand)(t:TypeId)
 (ho:o.op=.call {callee:=.builtin .append,args:=#[s,x],argTypes:=#[t,t]}) (v:Value) (b q n cap:Nat) (hs:a.eval s=v) (hx:a.eval x=sl b q n cap)
 (k:Int→Value) {e B:Nat} {z:Value} (h1:z.cells=#[z]) (ht:Tryz.prog.underlying t=some (.slice e)) (hi:(Tryz.prog.info? e).map (fun i=>(i.zero,i.size,i.bytes))=some (some z,1,B)) (hB:B≤16) (hk:∀n,(k n).oneCell'=true)
 {w0:World} {L U:List Int} (hw:Mod [] w0 w) (hv:OwnI k e w w0.heap.size v L) (hU:U.length=n) (hc:∀i,i<n→w.cell? ⟨b,q+i,none⟩=some (k (ith U i))) (hn:L.length+n<900000)
 (h:∀v' w',OwnI k e w' w0.heap.size v' (L++U)→Mod [] w0 w'→wpList Tryz.prog ops Q rest (a.put o.dst v') w'):wpList Tryz.prog ops Q (o::rest) a w:=by
 obtain⟨v',w',hr,hown,hgr⟩:=run_app h1 ht hi hB w0.heap.size v L.length (L.map k) w hv ⟨b,q,none⟩ cap (U.map k) n (by simpa using hU)
  (by
    intro j y hj
    have hjl:j<U.length:=by simpa using(List.getElem?_eq_some_iff.1 hj).1
    rw[map_geti hjl]at hj
    rw[add_addr,hc j (by omega)]
    exact hj) (by intro y hy;simp at hy;obtain⟨z,_,rfl⟩:=hy;exact hk z) (by omega) hw.size o.type
 refine wpl_run2 hgd s x t ho v _ hs hx hr (h v' w' ?_ ?_)
 ·unfold OwnI
  rw[List.length_append,hU,List.map_append]
  exact hown
 ·refine Mod.trans (U:=[]) hw (Mod.grown (S:=v.ownBlock.toList) hgr (by intro kk hk _;simp[hk])) (by simp) ?_
  intro y hy hlt
  simp at hy
  have:=(World.ownsRow.lt hv y hy).1
  omega
def ByI(L:List Int):Prop:=∀z∈L,0≤z∧z<256
abbrev v8(z:Int):Value:=.int .u8 z
theorem ByI.nat{L:List Int}(h:ByI L):L=(L.map Int.toNat).map (fun n:Nat=>(n:Int)):=by
 rw[List.map_map]
 conv=>lhs;rw[←List.map_id L]
 refine List.map_congr_left fun z hz=>?_
 have:=(h z hz).1
 simp only[id,Function.comp]
 omega
theorem ByI.row{L:List Int}(h:ByI L):L.map v8=(L.map Int.toNat).map u8:=by
 conv=>lhs;rw[h.nat]
 rw[List.map_map]
 rfl
theorem ByI.bytes{L:List Int}(h:ByI L):Bytes (L.map Int.toNat):=fun i=>by
 by_cases hi:i<L.length
 ·have:=h L[i] (List.getElem_mem hi)
  simp only[nth,List.getD_eq_getElem?_getD,List.getElem?_map,List.getElem?_eq_getElem hi,Option.map_some,Option.getD_some]
  omega
 ·rw[nth_ge (by simp;omega)];omega
theorem OwnI.bytes{T:Nat}{w:World}{base:Nat}{v:Value}{L:List Int}(h:OwnI v8 T w base v L)(hL:ByI L):Own u8 T w base v (L.map Int.toNat):=by
 unfold OwnI at h
 unfold Own
 rw[List.length_map,←hL.row]
 exact h
theorem Own.ints{T:Nat}{w:World}{base:Nat}{v:Value}{L:List Nat}(h:Own u8 T w base v L):OwnI v8 T w base v (L.map (fun n:Nat=>(n:Int))):=by
 unfold OwnI
 rw[List.length_map,List.map_map]
 exact h
theorem ByI.append{A B:List Int}(hA:ByI A)(hB:ByI B):ByI (A++B):=by
 intro z hz
 rcases List.mem_append.1 hz with h|h
 ·exact hA z h
 ·exact hB z h
theorem ByI.one(z:Int):ByI [IntKind.u8.wrap z]:=by
 intro y hy
 simp at hy
 rw[hy,IntKind.wrap_u8]
 omega
theorem ByI.ofBytes{L:List Nat}(h:Bytes L):ByI (L.map (fun n:Nat=>(n:Int))):=by
 intro z hz
 simp at hz
 obtain⟨n,hn,rfl⟩:=hz
 obtain⟨i,hi,rfl⟩:=List.mem_iff_getElem.1 hn
 have:=h i
 simp only[nth,List.getD_eq_getElem?_getD,List.getElem?_eq_getElem hi,Option.getD_some]at this
 omega
theorem run_appB{w:World}{base:Nat}{v:Value}{L:List Nat}(hown:Own u8 5 w base v L){x:Value}{B:List Nat}(hx:SliceB w x B)(hn:L.length+B.length≤900000)(hb:base≤w.heap.size)(ty:Nat) :
 ∃v' w',(Builtin.append_ #[23,23] ty #[v,x]).run Tryz.prog w=.ok v' w'∧Own u8 5 w' base v' (L++B)∧Mod v.ownBlock.toList w w':=by
 rcases hx with⟨rfl,rfl⟩|⟨a,c,rfl,rfl⟩|⟨b,o,c,rfl,hc,hcb⟩
 ·exact⟨v,w,run_app_none Tryz.underlying23 info_u8 base v L.length (L.map u8) w hown ty,by rw[List.append_nil];exact hown,Mod.refl _ _⟩
 ·obtain⟨v',w',hr,ho,hgr⟩:=run_app (z:=.int .u8 0) rfl Tryz.underlying23 info_u8 (by omega) base v L.length (L.map u8) w hown a c [] 0 rfl (by intro j u hj;simp at hj) (by simp) (by omega) hb ty
  refine⟨v',w',hr,?_,Mod.grown hgr (fun k hk _=>by rw[hk];simp)⟩
  rw[List.append_nil]at ho ⊢
  exact ho
 ·obtain⟨v',w',hr,ho,hgr⟩:=run_app (z:=.int .u8 0) rfl Tryz.underlying23 info_u8 (by omega) base v L.length (L.map u8) w hown ⟨b,o,none⟩ c (B.map u8) B.length (by simp)
   (by
     intro j u hj
     have hjl:j<B.length:=by simpa using(List.getElem?_eq_some_iff.1 hj).1
     rw[map_get hjl]at hj
     rw[add_addr,hcb j hjl]
     exact hj) (oneCell_map u8 (fun _=>rfl) B) (by omega) hb ty
  refine⟨v',w',hr,?_,Mod.grown hgr (fun k hk _=>by rw[hk];simp)⟩
  unfold Own
  rw[List.length_append,List.map_append]
  exact ho
theorem wpl_appB{ops:Array Oper}{rest:List Oper}{o:Oper}{a:Act}{Q:Exit→Act→World→Prop}{w:World}(hgd:o.guard=none)(s x:Operand)
 (ho:o.op=.call {callee:=.builtin .append,args:=#[s,x],argTypes:=#[23,23]}) (v xv:Value) (hs:a.eval s=v) (hx:a.eval x=xv)
 {w0:World} {L B:List Nat} (hw:Mod [] w0 w) (hv:Own u8 5 w w0.heap.size v L) (hxv:SliceB w xv B) (hn:L.length+B.length≤900000)
 (h:∀v' w',Own u8 5 w' w0.heap.size v' (L++B)→Mod [] w0 w'→Mod v.ownBlock.toList w w'→wpList Tryz.prog ops Q rest (a.put o.dst v') w'):wpList Tryz.prog ops Q (o::rest) a w:=by
 obtain⟨v',w',hr,hown,hm⟩:=run_appB hv hxv hn hw.size o.type
 refine wpl_run2 hgd s x _ ho v xv hs hx hr (h v' w' hown ?_ hm)
 refine Mod.trans (U:=[]) hw hm (by simp) ?_
 intro y hy hlt
 simp at hy
 have:=(World.ownsRow.lt hv y hy).1
 omega
theorem Own.sliceB{T:Nat}{w:World}{base:Nat}{v:Value}{L:List Nat}(h:Own u8 T w base v L):SliceB w v L:=by
 rcases h.blk with⟨rfl,rfl⟩|⟨g,cap,rest,rfl,hb,hg,hc,hm⟩
 ·exact .inl ⟨rfl,rfl⟩
 ·refine .inr (.inr ⟨g,0,cap,rfl,by omega,fun i hi=>?_⟩)
  rw[Nat.zero_add,hg.cell,List.getElem?_append_left (by simpa using hi),map_get hi]
theorem cells_newI(w:World)(T:Nat)(k:Int→Value)(U:List Int):∀i,i<U.length→(w.alloc (.cells (U.map k).toArray T)).cell? ⟨w.heap.size,0+i,none⟩=some (k (ith U i)):=fun i hi=>by
 rw[Nat.zero_add]
 exact(Blk.new w T (U.map k)).ati i hi
theorem ByI.of{L:List Int}(h:∀z∈L,0≤z∧z<256):ByI L:=h
theorem OwnI.made(k:Int→Value)(T:Nat){w:World}{base g n:Nat}(vs:List Value)(h:vs=(vs.map intOf).map k)(hb:base≤g)(hg:g=w.heap.size)(hn:vs.length=n)(hm:n≤maxLen) :
 OwnI k T (w.alloc (.cells vs.toArray T)) base (sl g 0 n n) (vs.map intOf):=by
 subst hg
 subst hn
 have hB:Blk (w.alloc (.cells vs.toArray T)) w.heap.size T ((vs.map intOf).map k++[]):=by
  rw[List.append_nil,←h];exact Blk.new w T vs
 have:=OwnI.ofBlk (cap:=vs.length) hb hB (by simp) hm
 rwa [List.length_map]at this
theorem OwnI.base{k:Int→Value}{T:Nat}{w:World}{base base':Nat}{v:Value}{L:List Int}(h:OwnI k T w base v L)(hb:base'≤base):OwnI k T w base' v L:=World.ownsRow.mono h hb
theorem Own.base{k:Nat→Value}{T:Nat}{w:World}{base base':Nat}{v:Value}{L:List Nat}(h:Own k T w base v L)(hb:base'≤base):Own k T w base' v L:=World.ownsRow.mono h hb
def rgt64(x:Int)(n:Nat):Int:=bits .or .u64 (x/2^n) (IntKind.u64.wrap (x*2^(64-n)))
def rgt32(x:Int)(n:Nat):Int:=bits .or .u32 (x/2^n) (x*2^(32-n)%4294967296)
set_option maxRecDepth 100000 in
theorem z_right(x:Int)(n:Nat)(hn:n≤64)(w:World):Calls Tryz.prog 104 #[.int .u64 x,.int .i64 n] w fun e w'=>e=.returned (v64 (rgt64 x n))∧∃m,w'=w.drewN m:=by
 obtain⟨m,hm⟩:∃m:Nat,m=64-n:=⟨_,rfl⟩
 have e1:(64:Int)-(n:Int)=(m:Int):=by omega
 have e2:IntKind.i64.wrap (m:Int)=(m:Int):=IntWalk.i64_in _ (by omega)
 unfold rgt64
 rw[←hm]
 clear hm
 go_enter Tryz.func104,Tryz.ntmps104
 go_wp2_with fail
 go_quiet (fail)
 go_wp2_with fail
 go_ret
 exact⟨rfl,_,rfl⟩
set_option maxRecDepth 100000 in
theorem z_right32(x:Int)(n:Nat)(hn:n≤32)(w:World):Calls Tryz.prog 102 #[.int .u32 x,.int .i64 n] w fun e w'=>e=.returned (v32 (rgt32 x n))∧∃m,w'=w.drewN m:=by
 obtain⟨m,hm⟩:∃m:Nat,m=32-n:=⟨_,rfl⟩
 have e1:(32:Int)-(n:Int)=(m:Int):=by omega
 have e2:IntKind.i64.wrap (m:Int)=(m:Int):=IntWalk.i64_in _ (by omega)
 unfold rgt32
 rw[←hm]
 clear hm
 go_enter Tryz.func102,Tryz.ntmps102
 go_wp2_with fail
 go_quiet (fail)
 go_wp2_with fail
 go_ret
 exact⟨rfl,_,rfl⟩
attribute [irreducible] rgt64 rgt32
set_option maxRecDepth 100000 in
theorem z_Block(n:Nat)(hn:n=224∨n=256∨n=384∨n=512)(w:World):Calls Tryz.prog 41 #[i64 n] w fun e w'=>w=w'∧e=.returned (i64 (if n≤256 then 64 else 128)):=by
 rcases hn with rfl|rfl|rfl|rfl
 all_goals
  go_enter Tryz.func41,Tryz.ntmps41
  go_wp2_with fail
  go_ret
  exact⟨rfl,rfl⟩
theorem info_u32:(Tryz.prog.info? 22).map (fun i=>(i.zero,i.size,i.bytes))=some (some (.int .u32 0),1,4):=by kernel_rfl
theorem info_u64:(Tryz.prog.info? 135).map (fun i=>(i.zero,i.size,i.bytes))=some (some (.int .u64 0),1,8):=by kernel_rfl
set_option maxRecDepth 100000 in
theorem z_Constants(w:World):Calls Tryz.prog 103 #[] w fun e w'=>Mod [] w w'∧∃v L,e=.returned v∧L.length=80∧OwnI v64 135 w' w.heap.size v L:=by
 go_enter Tryz.func103,Tryz.ntmps103
 go_wp2_with fail
 go_ret
 exact⟨(Mod.refl _ _).alloc _,_,_,rfl,rfl,OwnI.made v64 _ _ rfl (Nat.le_refl _) rfl rfl (by simp[maxLen])⟩
set_option maxRecDepth 100000 in
theorem z_Begin64(n:Nat)(hn:n=2∨n=3)(w:World):Calls Tryz.prog 47 #[i64 n] w fun e w'=>Mod [] w w'∧∃v L,e=.returned v∧L.length=8∧OwnI v64 135 w' w.heap.size v L:=by
 rcases hn with rfl|rfl
 ·go_enter Tryz.func47,Tryz.ntmps47
  go_wp2_with fail
  go_ret
  exact⟨((Mod.refl _ _).alloc _).alloc _,_,_,rfl,rfl,OwnI.made v64 _ _ rfl (by omega) (by rw[World.size_alloc]) rfl (by simp[maxLen])⟩
 ·go_enter Tryz.func47,Tryz.ntmps47
  go_wp2_with fail
  go_ret
  exact⟨(Mod.refl _ _).alloc _,_,_,rfl,rfl,OwnI.made v64 _ _ rfl (Nat.le_refl _) rfl rfl (by simp[maxLen])⟩
set_option maxRecDepth 100000 in
theorem z_Words32(h:List Int)(lh:h.length=8)(vh:Value)(w:World)(hh:SliceI v32 w vh h):Calls Tryz.prog 42 #[vh] w fun e w'=>Mod [] w w'∧∃v,e=.returned v∧∃L:List Int,L.length=32∧ByI L∧OwnI v8 5 w' w.heap.size v L:=by
 obtain⟨b,o,c,rfl,hc,hcb⟩:=hh
 rw[lh]at hc hcb ⊢
 have hown0:OwnI v8 5 (w.alloc (.cells #[] 5)) w.heap.size (sl w.heap.size 0 0 0) []:=OwnI.ofBlk (rest:=[]) (Nat.le_refl _) (Blk.new w _ []) rfl (by simp[maxLen])
 have HC:=hide hcb
 clear hcb
 go_enter Tryz.func42,Tryz.ntmps42
 go_wp2_with fail
 go_loopw [3,9] (fun v a wr=>∃(i:Nat) (L:List Int) (vv:Value),a=i64 i∧vv=v∧i≤8∧Mod [] w wr∧OwnI v8 5 wr w.heap.size vv L∧L.length=4*i∧ByI L) (fun _ a _=>8-(intOf a).toNat)
 case atStart=>exact⟨0,[],_,rfl,rfl,by omega,(Mod.refl _ _).alloc _,hown0,rfl,by intro z hz;simp at hz⟩
 case round=>
  obtain⟨i,L,vv,rfl,rfl,hi,hm,hv,hL,hby⟩:=hrel
  by_cases h8:i<8
  ·have g:(i:Int)<8:=by omega
   have ci:=cell_up0 (HC.out i h8) hm
   obtain⟨x,hx⟩:∃x,x=ith h i:=⟨_,rfl⟩
   rw[←hx]at ci
   have ei:IntKind.i64.wrap ((i:Int)+1)=((i+1:Nat):Int):=by rw[IntKind.wrap_i64];omega
   have HB:=hide hby
   have HLL:=hide hL
   clear hx hL hby
   obtain⟨U,hU⟩:∃U:List Int,U=[x/16777216%256,x/65536%256,x/256%256,x%256]:=⟨_,rfl⟩
   have hcU:=cells_newI wr 5 v8 [x/16777216%256,x/65536%256,x/256%256,x%256]
   rw[←hU]at hcU
   have lU:U.length=4:=by rw[hU];rfl
   rw[lU]at hcU
   have bU:ByI U:=by rw[hU];intro z hz;simp only[List.mem_cons,List.not_mem_nil,or_false]at hz;omega
   have hcU':∀i,i<4→(wr.alloc (.cells #[.int .u8 (x/16777216%256),.int .u8 (x/65536%256),.int .u8 (x/256%256),.int .u8 (x%256)] 5)).cell? ⟨wr.heap.size,0+i,none⟩=some (v8 (ith U i)):=by rw[hU]at hcU ⊢;exact hcU
   have HU:=hide hcU'
   clear hU hcU hcU'
   go_wp2_with (at_builtin;refine wpl_pushI rfl _ _ _ rfl vv wr.heap.size 0 4 4 rfl rfl v8 rfl Tryz.underlying23 info_u8 (by omega) (fun _=>rfl) (hm.alloc _) (hv.mod ((Mod.refl [] _).alloc _) (by simp)) lU HU.out (by have:=HLL.out;omega) ?_)
   intro v' w' hv' hm'
   have HV':=hide hv'
   clear hv'
   go_wp2_with fail
   go_roundw
   case rel=>exact⟨i+1,_,v',by first|rfl|(simp[Go.Proofs.YtfgmnbmnpihjdaaGreatDoor.i64];done),rfl,by omega,hm',HV'.out,by rw[List.length_append,HLL.out,lU];omega,HB.out.append bU⟩
   case measure=>simp[intOf];omega
  ·obtain rfl:i=8:=by omega
   have g:¬((8:Nat):Int)<8:=by omega
   have HB:=hide hby
   have HLL:=hide hL
   clear hL hby
   go_wp2_with fail
   go_ret
   exact⟨hm,_,rfl,L,HLL.out,HB.out,hv⟩
set_option maxRecDepth 100000 in
theorem z_Words64(h:List Int)(lh:h.length=8)(vh:Value)(w:World)(hh:SliceI v64 w vh h):Calls Tryz.prog 45 #[vh] w fun e w'=>Mod [] w w'∧∃v,e=.returned v∧∃L:List Int,L.length=64∧ByI L∧OwnI v8 5 w' w.heap.size v L:=by
 obtain⟨b,o,c,rfl,hc,hcb⟩:=hh
 rw[lh]at hc hcb ⊢
 have hown0:OwnI v8 5 (w.alloc (.cells #[] 5)) w.heap.size (sl w.heap.size 0 0 0) []:=OwnI.ofBlk (rest:=[]) (Nat.le_refl _) (Blk.new w _ []) rfl (by simp[maxLen])
 have HC:=hide hcb
 clear hcb
 go_enter Tryz.func45,Tryz.ntmps45
 go_wp2_with fail
 go_loopw [3,10] (fun v a wr=>∃(i:Nat) (L:List Int) (vv:Value),a=i64 i∧vv=v∧i≤8∧Mod [] w wr∧OwnI v8 5 wr w.heap.size vv L∧L.length=8*i∧ByI L) (fun _ a _=>8-(intOf a).toNat)
 case atStart=>exact⟨0,[],_,rfl,rfl,by omega,(Mod.refl _ _).alloc _,hown0,rfl,by intro z hz;simp at hz⟩
 case round=>
  obtain⟨i,L,vv,rfl,rfl,hi,hm,hv,hL,hby⟩:=hrel
  by_cases h8:i<8
  ·have g:(i:Int)<8:=by omega
   have ci:=cell_up0 (HC.out i h8) hm
   obtain⟨x,hx⟩:∃x,x=ith h i:=⟨_,rfl⟩
   rw[←hx]at ci
   have ei:IntKind.i64.wrap ((i:Int)+1)=((i+1:Nat):Int):=by rw[IntKind.wrap_i64];omega
   have HB:=hide hby
   have HLL:=hide hL
   have HM:=hide hm
   have HV:=hide hv
   clear hx hL hby hm hv
   go_wp2_with fail
   go_loopw [3,6] (fun v a wx=>∃(q:Nat) (L':List Int) (vv':Value) (z:Int),a=.int .i64 z∧z=56-8*(q:Int)∧vv'=v∧q≤8∧Mod [] w wx∧OwnI v8 5 wx w.heap.size vv' L'∧L'.length=8*i+q∧ByI L') (fun _ a _=>(intOf a+8).toNat)
   case atStart=>exact⟨0,L,vv,56,rfl,rfl,rfl,by omega,HM.out,HV.out,HLL.out,HB.out⟩
   case round=>
    obtain⟨q,L',vv',z,rfl,hz,rfl,hq,hm2,hv2,hL2,hby2⟩:=hrel
    by_cases hq8:q<8
    ·have gz:(0:Int)≤z:=by omega
     obtain⟨k,hk⟩:∃k:Nat,(k:Int)=z:=⟨z.toNat,by omega⟩
     subst hk
     have hcU:∀j,j<1→(wr.alloc (.cells #[.int .u8 (x/2^k%256)] 5)).cell? ⟨wr.heap.size,0+j,none⟩=some (v8 (ith [x/2^k%256] j)):=cells_newI wr 5 v8 [x/2^k%256]
     have HU:=hide hcU
     have HZ:=hide hz
     have HLQ:=hide hL2
     have HBQ:=hide hby2
     have ek:IntKind.i64.wrap ((k:Int)-8)=(k:Int)-8:=by rw[IntKind.wrap_i64];omega
     have hkl:k≤56:=by omega
     clear hcU hz hL2 hby2
     go_wp2_with (at_builtin;refine wpl_pushI rfl _ _ _ rfl vv' wr.heap.size 0 1 1 rfl rfl v8 rfl Tryz.underlying23 info_u8 (by omega) (fun _=>rfl) (hm2.alloc _) (hv2.mod ((Mod.refl [] _).alloc _) (by simp)) rfl HU.out (by have:=HLQ.out;omega) ?_)
     intro v' w' hv' hm'
     have HV':=hide hv'
     clear hv'
     go_wp2_with fail
     go_roundw
     case rel=>exact⟨q+1,_,v',(k:Int)-8,rfl,by have:=HZ.out;omega,rfl,by omega,hm',HV'.out,by rw[List.length_append,HLQ.out];simp;omega,HBQ.out.append (by intro z hz;simp only[List.mem_cons,List.not_mem_nil,or_false]at hz;omega)⟩
     case measure=>have:=HZ.out;simp[intOf];omega
    ·obtain rfl:q=8:=by omega
     obtain rfl:z = -8:=by omega
     have ei:IntKind.i64.wrap ((i:Int)+1)=((i+1:Nat):Int):=by rw[IntKind.wrap_i64];omega
     have HLQ:=hide hL2
     have HBQ:=hide hby2
     clear hz hL2 hby2
     go_wp2_with fail
     go_roundw
     case rel=>exact⟨i+1,L',vv',by first|rfl|(simp[Go.Proofs.YtfgmnbmnpihjdaaGreatDoor.i64];done),rfl,by omega,hm2,hv2,by rw[HLQ.out];omega,HBQ.out⟩
     case measure=>simp[intOf];omega
  ·obtain rfl:i=8:=by omega
   have g:¬((8:Nat):Int)<8:=by omega
   have HB:=hide hby
   have HLL:=hide hL
   clear hL hby
   go_wp2_with fail
   go_ret
   exact⟨hm,_,rfl,L,HLL.out,HB.out,hv⟩
set_option maxRecDepth 100000 in
theorem z_Begin32(n:Nat)(hn:n=0∨n=1)(w:World):Calls Tryz.prog 44 #[i64 n] w fun e w'=>Mod [] w w'∧∃v,e=.returned v∧∃L:List Int,L.length=8∧OwnI v32 22 w' w.heap.size v L:=by
 have hown0:OwnI v32 22 (w.alloc (.cells #[] 22)) w.heap.size (sl w.heap.size 0 0 0) []:=OwnI.ofBlk (rest:=[]) (Nat.le_refl _) (Blk.new w _ []) rfl (by simp[maxLen])
 rcases hn with rfl|rfl
 ·go_enter Tryz.func44,Tryz.ntmps44
  go_wp2_with fail
  go_loopw [3,6] (fun v a wr=>∃(i:Nat) (L:List Int) (vv:Value),a=i64 i∧vv=v∧i≤8∧Mod [] w wr∧OwnI v32 22 wr w.heap.size vv L∧L.length=i) (fun _ a _=>8-(intOf a).toNat)
  case atStart=>exact⟨0,[],_,rfl,rfl,by omega,(Mod.refl _ _).alloc _,hown0,rfl⟩
  case round=>
   obtain⟨i,L,vv,rfl,rfl,hi,hm,hv,hL⟩:=hrel
   by_cases h8:i<8
   ·have g:(i:Int)<8:=by omega
    have HLL:=hide hL
    clear hL
    go_wp2_with fail
    refine(z_Begin64 2 (.inl rfl) wr).mono ?_
    rintro e w1 ⟨m1,v1,L1,rfl,l1,o1⟩
    obtain⟨g1,c1,rfl,hg1,hc1,hcell⟩:=o1.slice (by omega)
    have cx:=hcell i (by omega)
    obtain⟨x,hx⟩:∃x,x=ith L1 i:=⟨_,rfl⟩
    rw[←hx]at cx
    rw[l1]
    have ei:IntKind.i64.wrap ((i:Int)+1)=((i+1:Nat):Int):=by rw[IntKind.wrap_i64];omega
    have hm1:=hm.then1 m1
    have hv1:=hv.mod m1 (by simp)
    clear hx hcell hm hv o1 hc1
    have hcU:∀j,j<1→(w1.alloc (.cells #[.int .u32 (x%4294967296)] 22)).cell? ⟨w1.heap.size,0+j,none⟩=some (v32 (ith [x%4294967296] j)):=cells_newI w1 22 v32 [x%4294967296]
    have HU:=hide hcU
    clear hcU
    go_wp2_with (at_builtin;refine wpl_pushI rfl _ _ _ rfl vv w1.heap.size 0 1 1 rfl rfl v32 rfl Tryz.underlying86 info_u32 (by omega) (fun _=>rfl) (hm1.alloc _) (hv1.mod ((Mod.refl [] _).alloc _) (by simp)) rfl HU.out (by have:=HLL.out;omega) ?_)
    intro v' w' hv' hm'
    have HV':=hide hv'
    clear hv'
    go_wp2_with fail
    go_roundw
    case rel=>exact⟨i+1,_,v',by first|rfl|(simp[Go.Proofs.YtfgmnbmnpihjdaaGreatDoor.i64];done),rfl,by omega,hm',HV'.out,by rw[List.length_append,HLL.out];rfl⟩
    case measure=>simp[intOf];omega
   ·obtain rfl:i=8:=by omega
    have g:¬((8:Nat):Int)<8:=by omega
    have HLL:=hide hL
    clear hL
    go_wp2_with fail
    go_ret
    exact⟨hm,_,rfl,L,HLL.out,hv⟩
 ·go_enter Tryz.func44,Tryz.ntmps44
  go_wp2_with fail
  go_loopw [3,6] (fun v a wr=>∃(i:Nat) (L:List Int) (vv:Value),a=i64 i∧vv=v∧i≤8∧Mod [] w wr∧OwnI v32 22 wr w.heap.size vv L∧L.length=i) (fun _ a _=>8-(intOf a).toNat)
  case atStart=>exact⟨0,[],_,rfl,rfl,by omega,(Mod.refl _ _).alloc _,hown0,rfl⟩
  case round=>
   obtain⟨i,L,vv,rfl,rfl,hi,hm,hv,hL⟩:=hrel
   by_cases h8:i<8
   ·have g:(i:Int)<8:=by omega
    have HLL:=hide hL
    clear hL
    go_wp2_with fail
    refine(z_Begin64 3 (.inr rfl) wr).mono ?_
    rintro e w1 ⟨m1,v1,L1,rfl,l1,o1⟩
    obtain⟨g1,c1,rfl,hg1,hc1,hcell⟩:=o1.slice (by omega)
    have cx:=hcell i (by omega)
    obtain⟨x,hx⟩:∃x,x=ith L1 i:=⟨_,rfl⟩
    rw[←hx]at cx
    rw[l1]
    have ei:IntKind.i64.wrap ((i:Int)+1)=((i+1:Nat):Int):=by rw[IntKind.wrap_i64];omega
    have hm1:=hm.then1 m1
    have hv1:=hv.mod m1 (by simp)
    clear hx hcell hm hv o1 hc1
    have hcU:∀j,j<1→(w1.alloc (.cells #[.int .u32 (x/4294967296%4294967296)] 22)).cell? ⟨w1.heap.size,0+j,none⟩=some (v32 (ith [x/4294967296%4294967296] j)):=cells_newI w1 22 v32 [x/4294967296%4294967296]
    have HU:=hide hcU
    clear hcU
    go_wp2_with (at_builtin;refine wpl_pushI rfl _ _ _ rfl vv w1.heap.size 0 1 1 rfl rfl v32 rfl Tryz.underlying86 info_u32 (by omega) (fun _=>rfl) (hm1.alloc _) (hv1.mod ((Mod.refl [] _).alloc _) (by simp)) rfl HU.out (by have:=HLL.out;omega) ?_)
    intro v' w' hv' hm'
    have HV':=hide hv'
    clear hv'
    go_wp2_with fail
    go_roundw
    case rel=>exact⟨i+1,_,v',by first|rfl|(simp[Go.Proofs.YtfgmnbmnpihjdaaGreatDoor.i64];done),rfl,by omega,hm',HV'.out,by rw[List.length_append,HLL.out];rfl⟩
    case measure=>simp[intOf];omega
   ·obtain rfl:i=8:=by omega
    have g:¬((8:Nat):Int)<8:=by omega
    have HLL:=hide hL
    clear hL
    go_wp2_with fail
    go_ret
    exact⟨hm,_,rfl,L,HLL.out,hv⟩
def lenV:Value→Nat
 | .slice _ n _=>n
 |_=>0
set_option maxRecDepth 100000 in
theorem z_Padded64(B:List Nat)(vd:Value)(w:World)(hd:SliceB w vd B)(bB:Bytes B)(lB:B.length≤40000):Calls Tryz.prog 40 #[vd,.int .i64 64] w fun e w'=>Mod [] w w'∧∃v,e=.returned v∧∃L:List Int,L.length%64=0∧L.length≤40300∧0<L.length∧ByI L∧OwnI v8 5 w' w.heap.size v L:=by
 have hown0:Own Go.Proofs.YtfgmnbmnpihjdaaGreatDoor.u8 5 (w.alloc (.cells #[] 5)) w.heap.size (sl w.heap.size 0 0 0) []:=Own.ofBlk (rest:=[]) (Nat.le_refl _) (Blk.new w _ []) rfl (by simp[maxLen])
 obtain⟨n0,hn0⟩:∃n0,n0=B.length:=⟨_,rfl⟩
 obtain⟨ad,cd,rfl⟩:=SliceB.isSlice hd
 obtain⟨T,hT1,hT2,hT3⟩:∃T,T%64=56∧n0+1≤T∧T<n0+1+64:=⟨n0+1+(56+64-(n0+1)%64)%64,by omega,by omega,by omega⟩
 obtain⟨m,hm8⟩:∃m:Nat,m=8*n0:=⟨_,rfl⟩
 have em:(8:Int)*(n0:Int)=(m:Int):=by omega
 have ewm:IntKind.u64.wrap (m:Int)=(m:Int):=IntWalk.u64_in _ (by omega)
 have ewn:IntKind.u64.wrap (n0:Int)=(n0:Int):=IntWalk.u64_in _ (by omega)
 have hsd:SliceB (w.alloc (.cells #[] 5)) (.slice ad B.length cd) B:=hd.mod ((Mod.refl [] w).alloc _) (by simp)
 have hby:ByI (B.map (fun n:Nat=>(n:Int))):=ByI.ofBytes bB
 have HBY:=hide hby
 have HSD:=hide hsd
 rw[←hn0]at lB HSD ⊢
 have HN0:=hide hn0
 have HT1:=hide hT1
 clear hd bB hby hsd hT1 hn0 hm8
 go_enter Tryz.func40,Tryz.ntmps40
 go_wp2_with (at_builtin;refine wpl_appB rfl _ _ rfl _ _ rfl rfl ((Mod.refl [] w).alloc _) hown0 HSD.out (by have:=HN0.out;simp;omega) ?_)
 intro v1 w1 hv1 hm1 _
 have hv2:=hv1.ints
 obtain⟨L1,hL1⟩:∃L1,L1=B.map (fun n:Nat=>(n:Int)):=⟨_,rfl⟩
 have lL1:L1.length=n0:=by rw[hL1,List.length_map,HN0.out]
 rw[←hL1]at hv2 HBY
 have HLL:=hide lL1
 clear hL1 hv1 lL1
 have hcU:∀j,j<1→(w1.alloc (.cells #[.int .u8 (128)] 5)).cell? ⟨w1.heap.size,0+j,none⟩=some (v8 (ith [128] j)):=cells_newI w1 5 v8 [128]
 have HU:=hide hcU
 clear hcU
 go_wp2_with (at_builtin;refine wpl_pushI rfl _ _ _ rfl _ w1.heap.size 0 1 1 rfl rfl v8 rfl Tryz.underlying23 info_u8 (by omega) (fun _=>rfl) (hm1.alloc _) (hv2.mod ((Mod.refl [] _).alloc _) (by simp)) rfl HU.out (by have:=HLL.out;omega) ?_)
 intro v3 w3 hv3 hm3
 have HV3:=hide hv3
 clear hv3
 go_wp2_with fail
 go_loopw [5] (fun v wr=>∃(L:List Int) (vv:Value),vv=v∧Mod [] w wr∧OwnI v8 5 wr w.heap.size vv L∧n0+1≤L.length∧L.length≤T∧ByI L) (fun v _=>T-lenV v)
 case atStart=>exact⟨_,_,rfl,hm3,HV3.out,by rw[List.length_append,HLL.out];simp,by rw[List.length_append,HLL.out];simp;omega,HBY.out.append (by intro z hz;simp at hz;omega)⟩
 case round=>
  obtain⟨L,vv,rfl,hm,hv,hl1,hl2,hby⟩:=hrel
  obtain⟨a,c,rfl⟩:=hv.lit
  obtain⟨n,hn⟩:∃n,n=L.length:=⟨_,rfl⟩
  rw[←hn]at hl1 hl2 hv ⊢
  obtain⟨r,hr⟩:∃r,r=n%64:=⟨_,rfl⟩
  have er:(n:Int)%64=(r:Int):=by omega
  have er2:(n:Int).tmod 64=(r:Int):=by rw[Int.tmod_eq_emod_of_nonneg (by omega)];exact er
  by_cases h0:r=56
  ·have hnT:n=T:=by have:=HT1.out;omega
   subst h0
   have HB:=hide hby
   have HN:=hide hn
   have HNT:=hide hnT
   clear hby hn hnT hr
   go_wp2_with fail
   go_loopw [5,6] (fun v a wx=>∃(q:Nat) (L':List Int) (vv':Value) (z:Int),a=.int .i64 z∧z=7-(q:Int)∧vv'=v∧q≤8∧Mod [] w wx∧OwnI v8 5 wx w.heap.size vv' L'∧L'.length=n+q∧ByI L') (fun _ a _=>(intOf a+1).toNat)
   case atStart=>exact⟨0,L,_,7,rfl,rfl,rfl,by omega,hm,hv,by rw[←HN.out];rfl,HB.out⟩
   case round=>
    obtain⟨q,L',vv',z,rfl,hz,rfl,hq,hm2,hv2,hL2,hby2⟩:=hrel
    by_cases hq8:q<8
    ·have gz:(0:Int)≤z:=by omega
     obtain⟨k,hk⟩:∃k:Nat,(k:Int)=z:=⟨z.toNat,by omega⟩
     subst hk
     have hkl:k≤7:=by omega
     have HZ:=hide hz
     have HLQ:=hide hL2
     have HBQ:=hide hby2
     have ek:IntKind.i64.wrap ((k:Int)-1)=(k:Int)-1:=by rw[IntKind.wrap_i64];omega
     clear hz hL2 hby2
     by_cases h8:k<8
     ·obtain⟨k8,hk8⟩:∃k8:Nat,k8=8*k:=⟨_,rfl⟩
      have e8:(8:Int)*(k:Int)=(k8:Int):=by omega
      have w8:IntKind.i64.wrap (k8:Int)=(k8:Int):=IntWalk.i64_in _ (by omega)
      have l8:k8≤56:=by omega
      have g8:(k:Int)<8:=by omega
      clear hk8
      have hcU:∀j,j<1→(wr.alloc (.cells #[.int .u8 ((m:Int)/2^k8%256)] 5)).cell? ⟨wr.heap.size,0+j,none⟩=some (v8 (ith [(m:Int)/2^k8%256] j)):=cells_newI wr 5 v8 [(m:Int)/2^k8%256]
      have HU:=hide hcU
      clear hcU
      go_wp2_with (at_builtin;refine wpl_pushI rfl _ _ _ rfl _ wr.heap.size 0 1 1 rfl rfl v8 rfl Tryz.underlying23 info_u8 (by omega) (fun _=>rfl) (hm2.alloc _) (hv2.mod ((Mod.refl [] _).alloc _) (by simp)) rfl HU.out (by have:=HLQ.out;omega) ?_)
      intro v' w' hv' hm'
      have HV':=hide hv'
      clear hv'
      go_wp2_with fail
      go_roundw
      case rel=>exact⟨q+1,_,v',(k:Int)-1,rfl,by have:=HZ.out;omega,rfl,by omega,hm',HV'.out,by rw[List.length_append,HLQ.out];simp;omega,HBQ.out.append (by intro z hz;simp only[List.mem_cons,List.not_mem_nil,or_false]at hz;omega)⟩
      case measure=>have:=HZ.out;simp[intOf]<;>omega
     ·exact absurd hkl (by omega)
    ·obtain rfl:q=8:=by omega
     obtain rfl:z = -1:=by omega
     have HLQ:=hide hL2
     have HBQ:=hide hby2
     clear hz hL2 hby2
     go_wp2_with fail
     go_ret
     exact⟨hm2,_,rfl,L',by have h1:=HLQ.out;have h2:=HNT.out;have h3:=HT1.out;omega,by have h1:=HLQ.out;have h2:=HNT.out;omega,by have h1:=HLQ.out;omega,HBQ.out,hv2⟩
  ·have g0:((r:Int) == 56)=false:=by rw[beq_eq_false_iff_ne];omega
   have g1:¬(r:Int)=56:=by omega
   have hlt:n<T:=by have:=HT1.out;rcases Nat.lt_or_ge n T with h|h;exact h;exact absurd (show r=56 by rw[hr,show n=T by omega];exact this) h0
   have HB:=hide hby
   have HN:=hide hn
   clear hby hn hr h0
   have hcU:∀j,j<1→(wr.alloc (.cells #[.int .u8 (0)] 5)).cell? ⟨wr.heap.size,0+j,none⟩=some (v8 (ith [0] j)):=cells_newI wr 5 v8 [0]
   have HU:=hide hcU
   clear hcU
   go_wp2_with (at_builtin;refine wpl_pushI rfl _ _ _ rfl _ wr.heap.size 0 1 1 rfl rfl v8 rfl Tryz.underlying23 info_u8 (by omega) (fun _=>rfl) (hm.alloc _) (hv.mod ((Mod.refl [] _).alloc _) (by simp)) rfl HU.out (by have:=HN.out;omega) ?_)
   intro v' w' hv' hm'
   obtain⟨a',c',hlit⟩:=hv'.lit
   have HV':=hide hv'
   have HLIT:=hide hlit
   clear hv' hlit
   go_wp2_with fail
   go_roundw
   case rel=>exact⟨_,v',rfl,hm',HV'.out,by rw[List.length_append,←HN.out];simp;omega,by rw[List.length_append,←HN.out];simp;omega,HB.out.append (by intro z hz;simp at hz;omega)⟩
   case measure=>rw[HLIT.out];simp only[lenV,List.length_append,←HN.out,List.length_singleton];omega
set_option maxRecDepth 100000 in
theorem z_Padded128(B:List Nat)(vd:Value)(w:World)(hd:SliceB w vd B)(bB:Bytes B)(lB:B.length≤40000):Calls Tryz.prog 40 #[vd,.int .i64 128] w fun e w'=>Mod [] w w'∧∃v,e=.returned v∧∃L:List Int,L.length%128=0∧L.length≤40300∧0<L.length∧ByI L∧OwnI v8 5 w' w.heap.size v L:=by
 have hown0:Own Go.Proofs.YtfgmnbmnpihjdaaGreatDoor.u8 5 (w.alloc (.cells #[] 5)) w.heap.size (sl w.heap.size 0 0 0) []:=Own.ofBlk (rest:=[]) (Nat.le_refl _) (Blk.new w _ []) rfl (by simp[maxLen])
 obtain⟨n0,hn0⟩:∃n0,n0=B.length:=⟨_,rfl⟩
 obtain⟨ad,cd,rfl⟩:=SliceB.isSlice hd
 obtain⟨T,hT1,hT2,hT3⟩:∃T,T%128=112∧n0+1≤T∧T<n0+1+128:=⟨n0+1+(112+128-(n0+1)%128)%128,by omega,by omega,by omega⟩
 obtain⟨m,hm8⟩:∃m:Nat,m=8*n0:=⟨_,rfl⟩
 have em:(8:Int)*(n0:Int)=(m:Int):=by omega
 have ewm:IntKind.u64.wrap (m:Int)=(m:Int):=IntWalk.u64_in _ (by omega)
 have ewn:IntKind.u64.wrap (n0:Int)=(n0:Int):=IntWalk.u64_in _ (by omega)
 have hsd:SliceB (w.alloc (.cells #[] 5)) (.slice ad B.length cd) B:=hd.mod ((Mod.refl [] w).alloc _) (by simp)
 have hby:ByI (B.map (fun n:Nat=>(n:Int))):=ByI.ofBytes bB
 have HBY:=hide hby
 have HSD:=hide hsd
 rw[←hn0]at lB HSD ⊢
 have HN0:=hide hn0
 have HT1:=hide hT1
 clear hd bB hby hsd hT1 hn0 hm8
 go_enter Tryz.func40,Tryz.ntmps40
 go_wp2_with (at_builtin;refine wpl_appB rfl _ _ rfl _ _ rfl rfl ((Mod.refl [] w).alloc _) hown0 HSD.out (by have:=HN0.out;simp;omega) ?_)
 intro v1 w1 hv1 hm1 _
 have hv2:=hv1.ints
 obtain⟨L1,hL1⟩:∃L1,L1=B.map (fun n:Nat=>(n:Int)):=⟨_,rfl⟩
 have lL1:L1.length=n0:=by rw[hL1,List.length_map,HN0.out]
 rw[←hL1]at hv2 HBY
 have HLL:=hide lL1
 clear hL1 hv1 lL1
 have hcU:∀j,j<1→(w1.alloc (.cells #[.int .u8 (128)] 5)).cell? ⟨w1.heap.size,0+j,none⟩=some (v8 (ith [128] j)):=cells_newI w1 5 v8 [128]
 have HU:=hide hcU
 clear hcU
 go_wp2_with (at_builtin;refine wpl_pushI rfl _ _ _ rfl _ w1.heap.size 0 1 1 rfl rfl v8 rfl Tryz.underlying23 info_u8 (by omega) (fun _=>rfl) (hm1.alloc _) (hv2.mod ((Mod.refl [] _).alloc _) (by simp)) rfl HU.out (by have:=HLL.out;omega) ?_)
 intro v3 w3 hv3 hm3
 have HV3:=hide hv3
 clear hv3
 go_wp2_with fail
 go_loopw [5] (fun v wr=>∃(L:List Int) (vv:Value),vv=v∧Mod [] w wr∧OwnI v8 5 wr w.heap.size vv L∧n0+1≤L.length∧L.length≤T∧ByI L) (fun v _=>T-lenV v)
 case atStart=>exact⟨_,_,rfl,hm3,HV3.out,by rw[List.length_append,HLL.out];simp,by rw[List.length_append,HLL.out];simp;omega,HBY.out.append (by intro z hz;simp at hz;omega)⟩
 case round=>
  obtain⟨L,vv,rfl,hm,hv,hl1,hl2,hby⟩:=hrel
  obtain⟨a,c,rfl⟩:=hv.lit
  obtain⟨n,hn⟩:∃n,n=L.length:=⟨_,rfl⟩
  rw[←hn]at hl1 hl2 hv ⊢
  obtain⟨r,hr⟩:∃r,r=n%128:=⟨_,rfl⟩
  have er:(n:Int)%128=(r:Int):=by omega
  have er2:(n:Int).tmod 128=(r:Int):=by rw[Int.tmod_eq_emod_of_nonneg (by omega)];exact er
  by_cases h0:r=112
  ·have hnT:n=T:=by have:=HT1.out;omega
   subst h0
   have HB:=hide hby
   have HN:=hide hn
   have HNT:=hide hnT
   clear hby hn hnT hr
   go_wp2_with fail
   go_loopw [5,6] (fun v a wx=>∃(q:Nat) (L':List Int) (vv':Value) (z:Int),a=.int .i64 z∧z=15-(q:Int)∧vv'=v∧q≤16∧Mod [] w wx∧OwnI v8 5 wx w.heap.size vv' L'∧L'.length=n+q∧ByI L') (fun _ a _=>(intOf a+1).toNat)
   case atStart=>exact⟨0,L,_,15,rfl,rfl,rfl,by omega,hm,hv,by rw[←HN.out];rfl,HB.out⟩
   case round=>
    obtain⟨q,L',vv',z,rfl,hz,rfl,hq,hm2,hv2,hL2,hby2⟩:=hrel
    by_cases hq8:q<16
    ·have gz:(0:Int)≤z:=by omega
     obtain⟨k,hk⟩:∃k:Nat,(k:Int)=z:=⟨z.toNat,by omega⟩
     subst hk
     have hkl:k≤15:=by omega
     have HZ:=hide hz
     have HLQ:=hide hL2
     have HBQ:=hide hby2
     have ek:IntKind.i64.wrap ((k:Int)-1)=(k:Int)-1:=by rw[IntKind.wrap_i64];omega
     clear hz hL2 hby2
     by_cases h8:k<8
     ·obtain⟨k8,hk8⟩:∃k8:Nat,k8=8*k:=⟨_,rfl⟩
      have e8:(8:Int)*(k:Int)=(k8:Int):=by omega
      have w8:IntKind.i64.wrap (k8:Int)=(k8:Int):=IntWalk.i64_in _ (by omega)
      have l8:k8≤56:=by omega
      have g8:(k:Int)<8:=by omega
      clear hk8
      have hcU:∀j,j<1→(wr.alloc (.cells #[.int .u8 ((m:Int)/2^k8%256)] 5)).cell? ⟨wr.heap.size,0+j,none⟩=some (v8 (ith [(m:Int)/2^k8%256] j)):=cells_newI wr 5 v8 [(m:Int)/2^k8%256]
      have HU:=hide hcU
      clear hcU
      go_wp2_with (at_builtin;refine wpl_pushI rfl _ _ _ rfl _ wr.heap.size 0 1 1 rfl rfl v8 rfl Tryz.underlying23 info_u8 (by omega) (fun _=>rfl) (hm2.alloc _) (hv2.mod ((Mod.refl [] _).alloc _) (by simp)) rfl HU.out (by have:=HLQ.out;omega) ?_)
      intro v' w' hv' hm'
      have HV':=hide hv'
      clear hv'
      go_wp2_with fail
      go_roundw
      case rel=>exact⟨q+1,_,v',(k:Int)-1,rfl,by have:=HZ.out;omega,rfl,by omega,hm',HV'.out,by rw[List.length_append,HLQ.out];simp;omega,HBQ.out.append (by intro z hz;simp only[List.mem_cons,List.not_mem_nil,or_false]at hz;omega)⟩
      case measure=>have:=HZ.out;simp[intOf]<;>omega
     ·have g8:¬(k:Int)<8:=by omega
      have hcU:∀j,j<1→(wr.alloc (.cells #[.int .u8 (0)] 5)).cell? ⟨wr.heap.size,0+j,none⟩=some (v8 (ith [0] j)):=cells_newI wr 5 v8 [0]
      have HU:=hide hcU
      clear hcU
      go_wp2_with (at_builtin;refine wpl_pushI rfl _ _ _ rfl _ wr.heap.size 0 1 1 rfl rfl v8 rfl Tryz.underlying23 info_u8 (by omega) (fun _=>rfl) (hm2.alloc _) (hv2.mod ((Mod.refl [] _).alloc _) (by simp)) rfl HU.out (by have:=HLQ.out;omega) ?_)
      intro v' w' hv' hm'
      have HV':=hide hv'
      clear hv'
      go_wp2_with fail
      go_roundw
      case rel=>exact⟨q+1,_,v',(k:Int)-1,rfl,by have:=HZ.out;omega,rfl,by omega,hm',HV'.out,by rw[List.length_append,HLQ.out];simp;omega,HBQ.out.append (by intro z hz;simp at hz;omega)⟩
      case measure=>have:=HZ.out;simp[intOf]<;>omega
    ·obtain rfl:q=16:=by omega
     obtain rfl:z = -1:=by omega
     have HLQ:=hide hL2
     have HBQ:=hide hby2
     clear hz hL2 hby2
     go_wp2_with fail
     go_ret
     exact⟨hm2,_,rfl,L',by have h1:=HLQ.out;have h2:=HNT.out;have h3:=HT1.out;omega,by have h1:=HLQ.out;have h2:=HNT.out;omega,by have h1:=HLQ.out;omega,HBQ.out,hv2⟩
  ·have g0:((r:Int) == 112)=false:=by rw[beq_eq_false_iff_ne];omega
   have g1:¬(r:Int)=112:=by omega
   have hlt:n<T:=by have:=HT1.out;rcases Nat.lt_or_ge n T with h|h;exact h;exact absurd (show r=112 by rw[hr,show n=T by omega];exact this) h0
   have HB:=hide hby
   have HN:=hide hn
   clear hby hn hr h0
   have hcU:∀j,j<1→(wr.alloc (.cells #[.int .u8 (0)] 5)).cell? ⟨wr.heap.size,0+j,none⟩=some (v8 (ith [0] j)):=cells_newI wr 5 v8 [0]
   have HU:=hide hcU
   clear hcU
   go_wp2_with (at_builtin;refine wpl_pushI rfl _ _ _ rfl _ wr.heap.size 0 1 1 rfl rfl v8 rfl Tryz.underlying23 info_u8 (by omega) (fun _=>rfl) (hm.alloc _) (hv.mod ((Mod.refl [] _).alloc _) (by simp)) rfl HU.out (by have:=HN.out;omega) ?_)
   intro v' w' hv' hm'
   obtain⟨a',c',hlit⟩:=hv'.lit
   have HV':=hide hv'
   have HLIT:=hide hlit
   clear hv' hlit
   go_wp2_with fail
   go_roundw
   case rel=>exact⟨_,v',rfl,hm',HV'.out,by rw[List.length_append,←HN.out];simp;omega,by rw[List.length_append,←HN.out];simp;omega,HB.out.append (by intro z hz;simp at hz;omega)⟩
   case measure=>rw[HLIT.out];simp only[lenV,List.length_append,←HN.out,List.length_singleton];omega
end Go.Proofs.YtfgmnbmnpihjdaaGreatDoor
