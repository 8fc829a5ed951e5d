/- The step of a row whose world's shape is kept (after the kit's Derived/HandedShaped.lean and Derived/Handed.lean), and: a package's variable that is an array of numbers holds some numbers. -/
import Derived.HandedShaped
import Derived.Test.YtfgmnbmnpihjdaaGreatDoorM01
set_option linter.all false
set_option exponentiation.threshold 7000000
namespace Go.Proofs.YtfgmnbmnpihjdaaGreatDoor
open Go.RowKit
variable {H:Type} {enc:TypeId×Value→H}
theorem step_shaped{a:Assume}{C:Checked}{os:Os}{f:FuncId}{fn:Func}{s:ChangeSpec}{conds:List PathCond}{apart fresh handsOn again:Bool}{X:World→Array Value→Prop}
 (hX:∀(w w':World) (args:Array Value),w.heap=w'.heap→X w args→X w' args)
 (own:ownKnob C.prog.godebug=none) (started:os.Started) (noInit:C.prog.inits.idxOf? f=none) (hfn:C.prog.funcs[f]? = some fn)
 (witness:∃(w:World) (tape:Tape) (i:Input),w.os=os∧(w.forCall tape i).Shaped C.prog∧i.vars=[]∧Input.okWide C.prog (w.forCall tape i) .any w.heap.size f i ∧
   ((s.pre enc C.prog fn conds apart (w.forCall tape i).memory i.args∧X (w.forCall tape i).memory i.args)∧sizedMet enc C.prog fn (OpenSpec.ofChange s) apart (w.forCall tape i).memory i.args)∧a.holds C.prog (lone (Frame.enter C.prog f i.args .normal) [] (w.forCall tape i)))
 (contract:∀(W:World) (base:Nat) (args:Array Value) (ds gs:List (DataW H)) (before:List MemPlace),
   (∀(j:Nat) t v,fn.params[j]? = some t→args[j]? = some v→Value.okWide C.prog W .any base t v) →
   DataW.Whole enc C.prog fn.params.toList s.vars apart W args.toList ds gs before →
   conds.all (PathCond.test C.prog ⟨fn.params.toList,ds,s.plain.varTypes C.prog,gs⟩)=true →
   (DataW.weightsEach C.prog (fn.params.toList++s.plain.varTypes C.prog) (ds++gs)).all (·≤reachBytes)=true→X W args→W.ShapedOpen C.prog →
   a.holds C.prog (lone (Frame.enter C.prog f args .normal) [] W) →
   Calls C.prog f args W fun e W'=>∃v,e=.returned v∧s.post enc C.prog fn apart fresh handsOn again W args v W') :
 ReturnsInHanded a C os f .any (fun w args=>(s.pre enc C.prog fn conds apart w args∧X w args)∧sizedMet enc C.prog fn (OpenSpec.ofChange s) apart w args) (s.post enc C.prog fn apart fresh handsOn again):=by
 refine returnsInHanded_of_calls own started noInit witness ?_
 intro w tape i _ hsh _ hok hpre hholds
 obtain⟨_,_,_,fn',hfn',_,_,_,_,hval⟩:=hok
 have e:fn'=fn:=Option.some.inj (hfn'.symm.trans hfn)
 subst e
 obtain⟨⟨⟨ds,gs,before,hw,hc⟩,hx⟩,hz⟩:=hpre
 have hw':=DataW.Whole.of_heap (w':=w.forCall tape i) (by rfl) hw
 refine(contract (w.forCall tape i) w.heap.size i.args ds gs before hval hw' hc (hz.weights hw) (hX _ _ _ (by rfl) hx) hsh hholds).mono fun e W' ⟨v,he,hp⟩=>?_
 subst he
 exact ChangeSpec.post_blind hp
theorem row_of_shapedOpen{P:Program}{w:World}{g n:Nat}{t u:TypeId}{zero:Array Value}{k:IntKind}
 (h:w.ShapedOpen P) (hg:g<P.globals.size)
 (h0:((begin P (fun _ _=>0) default).world.heap[g]?).bind Obj.row? = some (zero,t)) (hz:zero.size=n)
 (hb:P.buildable t=true) (hc:P.cellTypes P.depth t=some (List.replicate n u)) (hu:P.underlying u=some (.int k)) :
 ∃L:List Int,L.length=n∧Blk w g t (L.map fun z=>.int k z)∧∀z∈L,k.min≤z∧z≤k.max:=by
 obtain⟨cs,hh,hs,hr⟩:=h.1 g zero t hg h0
 obtain⟨ts,hts,_,hall⟩:=hr hb
 rw[hc]at hts
 obtain rfl:List.replicate n u=ts:=Option.some.inj hts
 have hcell:∀v∈cs.toList,∃z:Int,v=.int k z∧k.min≤z∧z≤k.max:=by
  intro v hv
  obtain⟨i,hi,rfl⟩:=List.getElem_of_mem hv
  have hi':i<cs.size:=by simpa using hi
  obtain⟨u',hu',hok⟩:=hall i cs[i] (by simp[hi'])
  have hm:u'∈List.replicate n u:=List.mem_of_getElem? hu'
  obtain rfl:=List.eq_of_mem_replicate hm
  unfold Cell.ok at hok
  rw[hu]at hok
  rw[Array.getElem_toList]
  cases hv:cs[i]<;>rw[hv]at hok<;>simp at hok
  case int k' z=>exact⟨z,by rw[hok.1],hok.2⟩
 obtain⟨L,hL,hr⟩:∃L:List Int,cs.toList=L.map (fun z=>.int k z)∧∀z∈L,k.min≤z∧z≤k.max:=by
  clear hall hh hs hb hr
  generalize cs.toList=vs at *
  induction vs with
  |nil=>exact⟨[],rfl,by simp⟩
  |cons v vs ih=>
   obtain⟨L,h1,h2⟩:=ih fun v hv=>hcell v (List.mem_cons_of_mem _ hv)
   obtain⟨z,rfl,hz⟩:=hcell v (List.mem_cons_self ..)
   exact⟨z::L,by rw[h1];rfl,by simpa using⟨hz,h2⟩⟩
 refine⟨L,?_,?_,hr⟩
 ·have:=congrArg List.length hL
  simp at this
  omega
 ·unfold Blk
  rw[←hL]
  simpa using hh
end Go.Proofs.YtfgmnbmnpihjdaaGreatDoor
