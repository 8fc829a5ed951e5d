/- Lemmas of mine for the walk and its plain laws: HzF -/
import Derived.Test.YtfgmnbmnpihjdaaGreatDoorM26
import Derived.Deep.RegionHeld3
import Derived.ArgAppend
set_option linter.all false
set_option exponentiation.threshold 7000000
namespace Go.Proofs.YtfgmnbmnpihjdaaGreatDoor
open Go.RowKit
theorem run_push(k:Int→Value){t e B:Nat}{z:Value}(h1:z.cells=#[z])(ht:Tryz.prog.underlying t=some (.slice e))(hi:(Tryz.prog.info? e).map (fun i=>(i.zero,i.size,i.bytes))=some (some z,1,B))(hB:B≤16)(hk:∀n,(k n).oneCell'=true)
 {w1:World} {base b:Nat} {v:Value} {L:List Int} (hv2:OwnI k e w1 base v L) (hsz:base≤w1.heap.size) (hn:L.length<900000) (x:Int) (ty:Nat) (hc:w1.cell? ⟨b,0,none⟩=some (k x)) :
 ∃v' w',(Builtin.append_ #[t,t] ty #[v,sl b 0 1 1]).run Tryz.prog w1=.ok v' w'∧OwnI k e w' base v' (L++[x])∧OwnI k e w' base v L∧Mod v.ownBlock.toList w1 w':=by
 have hnews:∀j u,[k x][j]? = some u→w1.cell? ((⟨b,0,none⟩:Addr).add j)=some u:=by
  intro j y hj
  have hjl:j<1:=by simpa using(List.getElem?_eq_some_iff.1 hj).1
  obtain rfl:j=0:=by omega
  simp at hj
  subst hj
  rw[add_addr]
  exact hc
 have hone:∀u∈[k x],u.oneCell'=true:=by intro y hy;simp at hy;rw[hy];exact hk x
 obtain⟨i,g1,g2,g3,g4⟩:=info_parts hi
 rcases hv2.blk with⟨rfl,rfl⟩|⟨g,cap,rest,rfl,hbg,hg,hcap,hmax⟩
 ·obtain⟨v',w',hr,hown,hgr⟩:=run_app h1 ht hi hB base (.slice none 0 0) 0 [] _ hv2 ⟨b,0,none⟩ 1 [k x] 1 rfl hnews hone (by omega) hsz ty
  exact⟨v',w',hr,hown,OwnI.nil _ _ _ _,Mod.grown (S:=[]) hgr (by intro kk hk _;cases hk)⟩
 ·by_cases hroom:L.length+1≤cap
  ·have hrun:=run_append_room_cells (P:=Tryz.prog) w1 t ty e i ht g1 g 0 L.length cap ⟨b,0,none⟩ 1 1 [k x] (by rw[g3];rfl) hnews hone hroom
    (by
      intro j hj
      rw[List.length_singleton]at hj
      rw[g3,hg.cell]
      simp;omega) (by intro j hj;exact hg.frozen _)
   rw[g3,Nat.zero_add,Nat.mul_one]at hrun
   obtain⟨r,rest',rfl⟩:∃r rest',rest=r::rest':=by
    cases rest with
    |nil=>simp at hcap;omega
    |cons r rest'=>exact⟨r,rest',rfl⟩
   have hB2:Blk (w1.setCell ⟨g,L.length,none⟩ (k x)) g e (L.map k++k x::rest'):=by
    have:=hg.setCell L.length (k x)
    rwa [List.set_append_right _ _ (by simp),List.length_map,Nat.sub_self,List.set_cons_zero]at this
   have hcap':L.length+(rest'.length+1)=cap:=by simpa using hcap
   refine⟨_,_,hrun,?_,?_,?_⟩
   ·have:=OwnI.ofBlk (L:=L++[x]) (rest:=rest') (k:=k) (cap:=cap) hbg (by rw[List.map_append,List.append_assoc];exact hB2) (by rw[List.length_append,List.length_singleton];omega) hmax
    rwa [List.length_append,List.length_singleton]at this
   ·exact OwnI.ofBlk (rest:=k x::rest') hbg hB2 (by simpa using hcap) hmax
   ·exact Mod.setCells [k x] L.length (Mod.refl _ _) (fun _=>by simp[Value.ownBlock])
  ·obtain⟨v',w',hr,hown,hgr⟩:=run_append_arg_grows (P:=Tryz.prog) w1 t ty e i z 1 B ht g1 g2 g3 g4 (by rw[h1];rfl) (by omega) ⟨g,0,none⟩ L.length cap (L.map k) (by simp)
    (by
      intro j u hj
      have hjl:j<L.length:=by simpa using(List.getElem?_eq_some_iff.1 hj).1
      rw[add_addr,Nat.zero_add,hg.cell,List.getElem?_append_left (by simpa using hjl)]
      exact hj) ⟨b,0,none⟩ 1 1 [k x] rfl hnews (by omega) (by simp only[maxLen];omega) (Nat.le_trans (Nat.mul_le_mul (show L.length+1≤1000000 by omega) hB) (by omega))
   have hmw:Mod [] w1 w':=Mod.grown (S:=[]) hgr (by intro kk hk _;cases hk)
   refine⟨v',w',hr,?_,hv2.mod hmw (by simp),(Mod.refl [] w1).trans hmw (by simp) (by simp)⟩
   have h3:=World.ownsRow.mono hown hsz
   unfold OwnI
   rw[List.length_append,List.map_append]
   exact h3
structure ZS(k:Int→Value)(e:Nat)(w:World)(v:Value)(L:List Int)(w':World):Prop where
 m:Mod [] w w'
 o:OwnI k e w' w.heap.size v L
theorem ZS.up{k:Int→Value}{e:Nat}{w:World}{v:Value}{L:List Int}{w1 w2:World}(h:ZS k e w v L w1)(m:Mod [] w1 w2):ZS k e w v L w2:=⟨h.m.then1 m,h.o.mod m (by simp)⟩
theorem ZS.alloc{k:Int→Value}{e:Nat}{w:World}{v:Value}{L:List Int}{w1:World}(h:ZS k e w v L w1)(o:Obj):ZS k e w v L (w1.alloc o):=h.up ((Mod.refl [] w1).alloc o)
theorem ZS.drew{k:Int→Value}{e:Nat}{w:World}{v:Value}{L:List Int}{w1:World}(h:ZS k e w v L w1):ZS k e w v L w1.drew:=h.up (Mod.refl [] w1).drew
theorem ZS.drewN{k:Int→Value}{e:Nat}{w:World}{v:Value}{L:List Int}{w1:World}(h:ZS k e w v L w1)(n:Nat):ZS k e w v L (w1.drewN n):=h.up ((Mod.refl [] w1).drewN n)
theorem step_push1{ops:Array Oper}{o:Oper}{a:Act}{K:Act→World→Prop}{Q:Exit→Act→World→Prop}{E:Prop}(hgd:o.guard=none)(s x:Operand)(t:TypeId)
 (ho:o.op=.call {callee:=.builtin .append,args:=#[s,x],argTypes:=#[t,t]}) (k:Int→Value) {e B:Nat} {z:Value} (h1:z.cells=#[z]) (ht:Tryz.prog.underlying t=some (.slice e)) (hi:(Tryz.prog.info? e).map (fun i=>(i.zero,i.size,i.bytes))=some (some z,1,B)) (hB:B≤16) (hk:∀n,(k n).oneCell'=true)
 {w w1:World} {v:Value} {L:List Int} {y:Int} {b:Nat} (hz:ZS k e w v L w1) (hn:L.length<900000) (hs:a.eval s=v) (hx:a.eval x=sl b 0 1 1) (hc:w1.cell? ⟨b,0,none⟩=some (k y))
 (h:∀v' w',ZS k e w v L w'→ZS k e w v' (L++[y]) w'→K (a.put o.dst v') w'):if Region.wanted o (yielded ops a.tmps)=true then Oper.wp Tryz.prog o a w1 K Q else E:=by
 have hw:Region.wanted o (yielded ops a.tmps)=true:=by simp[Region.wanted,hgd]
 rw[if_pos hw]
 obtain⟨v',w',hr,h2,h3,h4⟩:=run_push k h1 ht hi hB hk hz.o hz.m.size hn y o.type hc
 unfold Oper.wp execOp
 simp only[ho,resolve,invoke,builtin,Sem.run_bind,Sem.run_pure,Result.andThen_ok,List.map_toArray,List.map_cons,List.map_nil,hs,hx,hr]
 have hm:Mod [] w w':=hz.m.trans h4 (by simp) (by
  intro y hy hlt
  simp at hy
  have:=(World.ownsRow.lt hz.o y hy).1
  omega)
 exact h v' w' ⟨hm,h3⟩ ⟨hm,h2⟩
theorem wpl_push1{ops:Array Oper}{rest:List Oper}{o:Oper}{a:Act}{Q:Exit→Act→World→Prop}(hgd:o.guard=none)(s x:Operand)(t:TypeId)
 (ho:o.op=.call {callee:=.builtin .append,args:=#[s,x],argTypes:=#[t,t]}) (k:Int→Value) {e B:Nat} {z:Value} (h1:z.cells=#[z]) (ht:Tryz.prog.underlying t=some (.slice e)) (hi:(Tryz.prog.info? e).map (fun i=>(i.zero,i.size,i.bytes))=some (some z,1,B)) (hB:B≤16) (hk:∀n,(k n).oneCell'=true)
 {w w1:World} {v:Value} {L:List Int} {y:Int} {b:Nat} (hz:ZS k e w v L w1) (hn:L.length<900000) (hs:a.eval s=v) (hx:a.eval x=sl b 0 1 1) (hc:w1.cell? ⟨b,0,none⟩=some (k y))
 (h:∀v' w',ZS k e w v' (L++[y]) w'→wpList Tryz.prog ops Q rest (a.put o.dst v') w'):wpList Tryz.prog ops Q (o::rest) a w1:=by
 obtain⟨v',w',hr,h2,h3,h4⟩:=run_push k h1 ht hi hB hk hz.o hz.m.size hn y o.type hc
 have hm:Mod [] w w':=hz.m.trans h4 (by simp) (by
  intro y hy hlt
  simp at hy
  have:=(World.ownsRow.lt hz.o y hy).1
  omega)
 exact wpl_run2 hgd s x t ho v _ hs hx hr (h v' w' ⟨hm,h2⟩)
theorem cell_drew{w:World}{a:Addr}{v:Value}(h:w.cell? a=some v):w.drew.cell? a=some v:=h
theorem cell_drewN{w:World}{a:Addr}{v:Value}{n:Nat}(h:w.cell? a=some v):(w.drewN n).cell? a=some v:=h
theorem cell_new1(w:World)(k:Int→Value)(T:Nat)(x:Int):(w.alloc (.cells #[k x] T)).cell? ⟨w.heap.size,0,none⟩=some (k x):=cells_newI w T k [x] 0 (by simp)
theorem z_rq64(x m:Int)(h0:0≤m)(h1:m≤64)(w:World):Calls Tryz.prog 104 #[.int .u64 x,.int .i64 m] w fun e w'=>e=.returned (v64 (rgt64 x m.toNat))∧∃q,w'=w.drewN q:=by
 obtain⟨n,rfl⟩:∃n:Nat,m=(n:Int):=⟨m.toNat,by omega⟩
 exact z_right x n (by omega) w
theorem z_rq32(x m:Int)(h0:0≤m)(h1:m≤32)(w:World):Calls Tryz.prog 102 #[.int .u32 x,.int .i64 m] w fun e w'=>e=.returned (v32 (rgt32 x m.toNat))∧∃q,w'=w.drewN q:=by
 obtain⟨n,rfl⟩:∃n:Nat,m=(n:Int):=⟨m.toNat,by omega⟩
 exact z_right32 x n (by omega) w
end Go.Proofs.YtfgmnbmnpihjdaaGreatDoor
