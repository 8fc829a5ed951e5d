/- Lemmas of mine for the walk and its plain laws: KnuthE SpecT SpecU SpecT2 -/
import Derived.Test.YtfgmnbmnpihjdaaGreatDoorM21
import Derived.Test.YtfgmnbmnpihjdaaGreatDoorM17
import Derived.Deep.LoopGhost
import Derived.Deep.CutBlock
import Derived.Deep.DeepCutAuto
set_option linter.all false
set_option maxHeartbeats 4000000
namespace Go.Proofs.YtfgmnbmnpihjdaaGreatDoor
open Go.RowKit
structure RoundOk(U V:List Nat)(j:Nat):Prop where
 two:2≤V.length
 canon:Canon V
 norm:32768≤nth V (V.length-1)
 digU:Digits U
 top:segS U (j+1) V.length<valS V
theorem RoundOk.pos{U V:List Nat}{j:Nat}(h:RoundOk U V j):0<valS V:=by have:=h.top;omega
theorem RoundOk.lt{U V:List Nat}{j:Nat}(h:RoundOk U V j):segS U j (V.length+1)<65536*valS V:=by
 rw[segS_head]
 have h1:=h.top
 have h2:=h.digU j
 omega
theorem RoundOk.vl{U V:List Nat}{j:Nat}(h:RoundOk U V j):valS (V.take (V.length-2))<65536^(V.length-2):=by
 have:=valS_lt (h.canon.digits.take (V.length-2))
 rwa [List.length_take,Nat.min_eq_left (by omega)]at this
theorem RoundOk.topd{U V:List Nat}{j:Nat}(h:RoundOk U V j):nth U (j+V.length)≤nth V (V.length-1):=by
 have h2:=h.two
 have h1:=h.top
 obtain⟨k,hk⟩:∃k,V.length=k+1:=⟨V.length-1,by omega⟩
 have e1:segS U (j+1) V.length=segS U (j+1) k+65536^k*nth U (j+V.length):=by
  rw[hk]
  show segS U (j+1) k+65536^k*nth U (j+1+k)=_
  rw[show j+1+k=j+(k+1)by omega]
 have e2:=valS_take_any V k
 rw[←hk,List.take_length]at e2
 have e3:=valS_lt (h.canon.digits.take k)
 rw[List.length_take,Nat.min_eq_left (by omega)]at e3
 rw[hk,Nat.add_sub_cancel,←hk]
 apply Classical.byContradiction
 intro hn
 have h3:65536^k*(nth V k+1)≤65536^k*nth U (j+V.length):=Nat.mul_le_mul_left _ (by omega)
 rw[Nat.mul_add,Nat.mul_one]at h3
 omega
structure Est(U V:List Nat)(j h r:Nat):Prop where
 eq:h*nth V (V.length-1)+r=nth U (j+V.length)*65536+nth U (j+(V.length-1))
 low:segS U j (V.length+1)/valS V≤h
theorem Est.start{U V:List Nat}{j t:Nat}(H:RoundOk U V j)(ht:t=nth U (j+V.length)*65536+nth U (j+(V.length-1))):Est U V j (t/nth V (V.length-1)) (t%nth V (V.length-1)):=by
 subst ht
 refine⟨by rw[Nat.mul_comm];exact Nat.div_add_mod _ _,?_⟩
 have hv:=H.norm
 have h0:segS U j (V.length-2)<65536^(V.length-2):=segS_lt H.digU _ _
 have h1:=knuth_low (q:=segS U j (V.length+1)/valS V) (val_shape H.two) (seg_shape U j V.length H.two) h0 (H.digU _) (Nat.div_mul_le_self _ _)
 exact(Nat.le_div_iff_mul_le (by omega)).2 h1
theorem Est.step{U V:List Nat}{j h r:Nat}(H:RoundOk U V j)(E:Est U V j h r)(hc:65536≤h∨r*65536+nth U (j+(V.length-2))<h*nth V (V.length-2)) :
 1≤h∧Est U V j (h-1) (r+nth V (V.length-1)):=by
 have hq:segS U j (V.length+1)/valS V<h:=by
  rcases hc with hc|hc
  ·have h1:segS U j (V.length+1)/valS V<65536:=(Nat.div_lt_iff_lt_mul H.pos).2 H.lt
   omega
  ·have h0:segS U j (V.length-2)<65536^(V.length-2):=segS_lt H.digU _ _
   exact(Nat.div_lt_iff_lt_mul H.pos).2 (knuth_high (val_shape H.two) (seg_shape U j V.length H.two) h0 E.eq hc)
 have h0:0<h:=Nat.lt_of_le_of_lt (Nat.zero_le _) hq
 obtain⟨k,rfl⟩:∃k,h=k+1:=⟨h-1,by omega⟩
 refine⟨h0,⟨?_,Nat.le_of_lt_succ hq⟩⟩
 have:=E.eq
 rw[←this,Nat.add_sub_cancel,Nat.add_mul]
 omega
structure Fine(U V:List Nat)(j h:Nat):Prop where
 lt:h<65536
 low:segS U j (V.length+1)/valS V≤h
 high:h*valS V<segS U j (V.length+1)+valS V
theorem Est.exit{U V:List Nat}{j h r:Nat}(H:RoundOk U V j)(E:Est U V j h r)(hh:h<65536)(hle:h*nth V (V.length-2)≤r*65536+nth U (j+(V.length-2))):Fine U V j h:=by
 have hv:=H.norm
 exact⟨hh,E.low,knuth_exit (val_shape H.two) (seg_shape U j V.length H.two) H.vl (by omega) E.eq hh hle⟩
theorem Est.brk{U V:List Nat}{j h r:Nat}(H:RoundOk U V j)(E:Est U V j h r)(hr:65536≤r):Fine U V j h:=by
 have hv:=H.norm
 have hp:=H.pos
 have hh:h<65536:=by
  apply Nat.lt_of_mul_lt_mul_right (a:=nth V (V.length-1))
  have h1:=E.eq
  have h2:=H.topd
  have h3:=H.digU (j+(V.length-1))
  have h4:nth U (j+V.length)*65536≤nth V (V.length-1)*65536:=Nat.mul_le_mul_right _ h2
  rw[Nat.mul_comm 65536]
  omega
 have h5:=knuth_break (val_shape H.two) (seg_shape U j V.length H.two) H.vl (H.canon.digits _) E.eq (by omega) hr
 exact⟨hh,E.low,by omega⟩
theorem Est.small{U V:List Nat}{j h r:Nat}(H:RoundOk U V j)(E:Est U V j h r):h<131072:=by
 have hv:=H.norm
 have h1:=E.eq
 have h2:=H.digU (j+V.length)
 have h3:=H.digU (j+(V.length-1))
 apply Classical.byContradiction
 intro hn
 have:131072*32768≤h*nth V (V.length-1):=Nat.mul_le_mul (by omega) hv
 omega
theorem take_more(V:List Nat):V.take (V.length+1)=V:=List.take_of_length_le (by omega)
theorem Fine.keep{U V U':List Nat}{j h p c:Nat}(H:RoundOk U V j)(F:Fine U V j h)(K:TakenAt U V h j (V.length+1) U' (V.length+1) p c)(hc:c≠1) :
 segS U' j (V.length+1)+h*valS V=segS U j (V.length+1)∧segS U' j (V.length+1)<valS V:=by
 have h1:=K.val
 have h2:=K.fin (by omega)
 have h3:=K.owed
 have hp:=H.pos
 rw[take_more,h2,show c=0 by omega,Nat.add_zero,Nat.mul_zero,Nat.add_zero]at h1
 refine⟨h1,?_⟩
 have h4:segS U j (V.length+1)<(h+1)*valS V:=(Nat.div_lt_iff_lt_mul hp).1 (by have:=F.low;omega)
 rw[Nat.add_mul]at h4
 omega
theorem Fine.over{U V U' U'':List Nat}{j h p d:Nat}(H:RoundOk U V j)(F:Fine U V j h)(K:TakenAt U V h j (V.length+1) U' (V.length+1) p 1)(B:BackAt U' V j U'' (V.length+1) d) :
 1≤h∧segS U'' j (V.length+1)+(h-1)*valS V=segS U j (V.length+1)∧segS U'' j (V.length+1)<valS V:=by
 have h1:=K.val
 have h2:=K.fin (by omega)
 have hp:=H.pos
 have h3:=B.val
 have h6:=F.high
 rw[take_more]at h1 h3
 rw[h2,Nat.zero_add,Nat.mul_one]at h1
 have h4:=segS_lt K.digits j (V.length+1)
 have h5:=segS_lt B.digits j (V.length+1)
 have h7:valS V<65536^(V.length+1):=by
  have:=valS_lt H.canon.digits
  have h8:65536^V.length≤65536^(V.length+1):=Nat.pow_le_pow_right (by omega) (by omega)
  omega
 have hc:=B.carry
 have h0:h≠0:=by intro h0;rw[h0,Nat.zero_mul]at h1;omega
 obtain⟨k,rfl⟩:∃k,h=k+1:=⟨h-1,by omega⟩
 rw[Nat.add_sub_cancel]
 rw[Nat.add_mul,Nat.one_mul]at h1 h6
 have hd:d=1:=by
  have:d≠0:=by
   intro h0;rw[h0,Nat.mul_zero]at h3;omega
  omega
 rw[hd,Nat.mul_one]at h3
 omega
theorem app_cat{w0 w:World}{v s:Value}{L M:List Nat}(hw:Mod [] w0 w)(hv:Own i64 3 w w0.heap.size v L)(hs:SliceK i64 w s M)(hn:L.length+M.length≤1000000)(ty:Nat) :
 ∃v' w',(Builtin.append_ #[25,25] ty #[v,s]).run Tryz.prog w=.ok v' w'∧Own i64 3 w' w0.heap.size v' (L++M)∧Mod [] w0 w':=by
 rcases hs with⟨rfl,rfl⟩|⟨b,o,c,rfl,hc,hb⟩
 ·exact⟨v,w,run_app_none Tryz.underlying25 info_int w0.heap.size v L.length (L.map i64) w hv ty,by simpa using hv,hw⟩
 ·obtain⟨v',w',hr,hown,hgr⟩:=run_app (z:=.int .i64 0) rfl Tryz.underlying25 info_int (by omega) w0.heap.size v L.length (L.map i64) w hv ⟨b,o,none⟩ c (M.map i64) M.length (by simp)
   (fun j u hj=>by
     have hjl:j<M.length:=by simpa using(List.getElem?_eq_some_iff.1 hj).1
     rw[map_get hjl]at hj
     rw[add_addr,hb j hjl]
     exact hj) (oneCell_map i64 (fun _=>rfl) M) hn hw.size ty
  refine⟨v',w',hr,by unfold Own;simpa using hown,?_⟩
  refine Mod.trans (U:=[]) hw (Mod.grown (S:=v.ownBlock.toList) hgr (by intro kk hk _;simp[hk])) (by simp) ?_
  intro y hy hlt
  simp at hy
  have:=(World.ownsRow.lt hv y hy).1
  omega
theorem DivAt.start{V S:List Nat}{m:Nat}(cV:Canon V)(cS:Canon S)(hV:V.length≠0)(hm:S.length+1=m+V.length):DivAt (valS S) V (S++[0]) (List.replicate m 0) m m:=by
 have e1:(S++[0]).length=m+V.length:=by simp[hm]
 have dU:Digits (S++[0]):=cS.digits.push (by omega)
 have hz:∀k,S.length≤k→nth (S++[0]) k=0:=by
  intro k hk
  rw[nth_append_right hk]
  rcases Nat.eq_zero_or_pos (k-S.length)with h|h
  ·rw[h];rfl
  ·exact nth_ge (by rw[List.length_singleton];exact h)
 refine⟨e1,by simp,dU,fun i=>by rw[nth_replicate0];omega,?_,fun k hk=>hz k (by omega),?_⟩
 ·obtain⟨k,hk⟩:∃k,V.length=k+1:=⟨V.length-1,by omega⟩
  have h1:=valS_ge cV hV
  rw[hk,Nat.add_sub_cancel]at h1
  rw[hk]
  show segS (S++[0]) m k+65536^k*nth (S++[0]) (m+k)<_
  rw[hz (m+k) (by omega),Nat.mul_zero,Nat.add_zero]
  have:=segS_lt dU m k
  omega
 ·rw[segS_val,←e1,List.take_length,List.drop_of_length_le (by simp),valS_append]
  simp[valS]
theorem DivAt.fin{T m:Nat}{V U O:List Nat}(h:DivAt T V U O m 0):valS O=T/valS V∧valS U=T%valS V:=by
 have h1:=h.val
 have h2:=h.top
 rw[Nat.zero_add,List.drop_zero,Nat.pow_zero,Nat.one_mul]at h1
 have hU:valS U=segS U 0 V.length:=by
  rw[segS_val]
  have:∀k,valS (U.take (V.length+k))=valS (U.take V.length):=by
   intro k
   induction k with
   |zero=>rfl
   |succ k ih=>rw[←Nat.add_assoc,valS_take_any,h.zero _ (by omega),Nat.mul_zero,Nat.add_zero,ih]
  have h3:=this m
  rwa [Nat.add_comm,←h.lenU,List.take_length]at h3
 rw[hU,h1,Nat.add_mul_div_right _ _ (by omega),Nat.div_eq_of_lt h2,Nat.zero_add,Nat.add_mul_mod_self_right,Nat.mod_eq_of_lt h2]
 exact⟨rfl,rfl⟩
set_option maxRecDepth 100000 in
theorem c_DivMod_long(va vb:Value)(A B:List Nat)(w:World)(ha:SliceK i64 w va A)(hb:SliceK i64 w vb B)(cA:Canon A)(cB:Canon B)(lA:A.length≤50000)(hge:valS B≤valS A)(h1:2≤B.length) :
 Calls Tryz.prog 34 #[va,vb] w (DivPost A B w):=by
 have hc:¬cmpV (valS A) (valS B)<0:=by rw[cmpV_neg];omega
 obtain⟨cv,hcv⟩:∃cv,cv=cmpV (valS A) (valS B):=⟨_,rfl⟩
 rw[←hcv]at hc
 obtain⟨ab,cb,hvb⟩:=hb.lit
 subst hvb
 have C:=hide (c_Cmp va (.slice ab B.length cb) A B w ha hb cA cB (by omega))
 rw[←hcv]at C
 have lB:=Canon.length_le cA.digits cB hge
 have HGE:=hide hge
 obtain⟨k,hk⟩:∃k,k=B.length-1:=⟨_,rfl⟩
 obtain⟨x,hx⟩:∃x,x=nth B k:=⟨_,rfl⟩
 have hx0:x≠0:=by rw[hx,hk];exact cB.top (by omega)
 have hxb:x<65536:=by rw[hx];exact cB.digits k
 have ek:(B.length:Int)-1=(k:Int):=by omega
 have g1:((B.length:Int) == 1)=false:=by simp;omega
 have hkl:(k:Int)<(B.length:Int):=by omega
 have HK:=hide hk
 have HX:=hide hx
 clear hcv hge
 go_enter Tryz.func34,Tryz.ntmps34
 go_wp2_with fail
 refine C.out.mono ?_
 rintro e w1 ⟨rfl,m1⟩
 obtain⟨b,o,rfl,_,hcB⟩:=(hb.mod m1 (by simp)).at (by omega)
 have hr:=hcB k (by omega)
 rw[←hx]at hr
 clear hcB hk hx
 go_wp2_with fail
 go_loop [8] (fun s=>∃s':Nat,s=i64 s'∧x*2^s'<65536) (fun s=>16-(intOf s).toNat)
 case atStart=>exact⟨0,rfl,by omega⟩
 case round=>
  obtain⟨s,rfl,hs⟩:=hrel
  obtain⟨y,hy⟩:∃y,y=x*2^s:=⟨_,rfl⟩
  have e3:(x:Int)*2^s=(y:Int):=by rw[hy,Int.natCast_mul,Int.natCast_pow];rfl
  have hs16:s<16:=by
   rcases Nat.lt_or_ge s 16 with h|h
   ·exact h
   ·have h2:2^16≤2^s:=Nat.pow_le_pow_right (by omega) h
    have h3:1*2^s≤x*2^s:=Nat.mul_le_mul_right _ (by omega)
    omega
  have hyb:y<65536:=by rw[hy];exact hs
  by_cases hlt:y<32768
  ·have hs2:Hid (x*2^(s+1)<65536):=hide (by rw[Nat.pow_succ,←Nat.mul_assoc,←hy];omega)
   have hlt':(y:Int)<32768:=by omega
   clear hy hs
   go_wp2_with fail
   go_round
   case rel=>exact⟨s+1,by go_num,hs2.out⟩
   case measure=>simp[intOf];omega
  ·have hlt':¬(y:Int)<32768:=by omega
   have N1:Hid (32768≤nth B (B.length-1)*2^s∧nth B (B.length-1)*2^s<65536):=hide (by rw[←HK.out,←HX.out,←hy];omega)
   have hb1:=hb.mod m1 (by simp)
   clear hy hs
   go_wp2_with fail
   clear hr hlt' hyb e3
   refine(c_Shl _ B s w1 hb1 cB hs16 (by omega)).mono ?_
   rintro e w2 ⟨vv,V,rfl,m2,hV,cV,eV,lV⟩
   obtain⟨hn,hnorm⟩:=norm_shape cB cV (by omega) hs16 eV N1.out.1 N1.out.2
   have m02:Mod [] w w2:=Mod.trans (U:=[]) m1 m2 (by simp) (by simp)
   have EV:=hide eV
   have LV:=hide lV
   have HNO:=hide hnorm
   obtain⟨av,cv,rfl⟩:=hV.lit
   obtain⟨n,hnn⟩:∃n,n=V.length:=⟨_,rfl⟩
   have l3:2≤n:=by omega
   have lnA:n≤A.length:=by omega
   rw[←hnn]at hV ⊢
   have HNN:=hide hnn
   have HHN:=hide hn
   clear eV lV hnorm hnn hn
   have ha2:SliceK i64 (w2.alloc (.cells #[] 3)) va A:=(ha.mod m02 (by simp)).mod ((Mod.refl [] _).alloc _) (by simp)
   have hown0:Own i64 3 (w2.alloc (.cells #[] 3)) w2.heap.size (sl w2.heap.size 0 0 0) []:=Own.ofBlk (rest:=[]) (Nat.le_refl _) (Blk.new w2 _ []) rfl (by simp[maxLen])
   have m2a:Mod [] w2 (w2.alloc (.cells #[] 3)):=(Mod.refl [] _).alloc _
   go_wp2_with fail
   refine(c_Shl va A s _ ha2 cA hs16 (by omega)).mono ?_
   rintro e w3 ⟨sa,SA,rfl,m3,hSA,cSA,eSA,lSA⟩
   have m23:Mod [] w2 w3:=Mod.trans (U:=[]) m2a m3 (by simp) (by simp)
   obtain⟨u1,w4,hr4,hu4,m4⟩:=app_cat m23 (hown0.mod m3 (by simp)) hSA (by simp;omega) 25
   rw[List.nil_append]at hu4
   have hma:Mod [] w2 (w4.alloc (.cells #[.int .i64 0] 3)):=m4.alloc _
   have hva:Own i64 3 (w4.alloc (.cells #[.int .i64 0] 3)) w2.heap.size u1 SA:=hu4.mod ((Mod.refl [] _).alloc _) (by simp)
   have hca:(w4.alloc (.cells #[.int .i64 0] 3)).cell? ⟨w4.heap.size,0,none⟩=some (i64 0):=blk_cell0 (Blk.new w4 3 [i64 0])
   have hlen:SA.length<900000:=by omega
   have ESA:=hide eSA
   have LSA:=hide lSA
   clear eSA lSA
   go_wp2_with (at_builtin;first|refine wpl_run2 rfl _ _ _ rfl _ _ rfl rfl hr4 ?_|refine wpl_push rfl _ _ _ rfl u1 w4.heap.size 1 rfl rfl i64 rfl Tryz.underlying25 info_int (by omega) (fun _=>rfl) hma hva hca hlen ?_)
   intro u2 w5 hu5 m5
   have lS:A.length≤SA.length:=Canon.length_le cSA.digits cA (by rw[ESA.out];exact Nat.le_mul_of_pos_right _ (Nat.pow_pos (by omega)))
   have hnn:=HNN.out
   obtain⟨lu,hlu⟩:∃lu,lu=(SA++[0]).length:=⟨_,rfl⟩
   have hlu2:lu=SA.length+1:=by rw[hlu];simp
   obtain⟨m,hm⟩:∃m,m=lu-n:=⟨_,rfl⟩
   have l1:lu≤100000:=by have:=LSA.out;omega
   have em:(lu:Int)-(n:Int)=(m:Int):=by omega
   have l2:lu=m+n:=by omega
   have l4:1≤m:=by omega
   have hs0:=hide (DivAt.start (m:=m) cV cSA (by omega) (by omega))
   obtain⟨gq,w6,hmk,m6,hgq,hBq⟩:=made_int m (by omega) w5
   rcases hu5.blk with⟨-,h⟩|⟨gu,cu,rest,rfl,hgu,hBu,hcu,hmu⟩
   ·simp at h
   rw[←hlu]at hcu ⊢
   have hBu6:=hBu.mod m6 (by simp)
   have hgu5:=hBu.lt
   obtain⟨bv,ov,rfl,hcv,hcV⟩:=hV.at (by omega)
   have hbv:bv<w2.heap.size:=block_lt_of_cell (hcV 0 (by omega))
   have hV6:SliceK i64 w6 (sl bv ov n cv) V:=hV.mod (m5.then m6) (by simp)
   have hap1:bv≠gu:=by omega
   have hap2:bv≠gq:=by have:=m5.size;omega
   have hap3:gu≠gq:=by omega
   have m06:Mod [] w w6:=Mod.then m02 (m5.then m6)
   have HLU:=hide hlu
   have HL2:=hide l2
   have lm:m≤100000:=by omega
   have ln:n≤100000:=by omega
   have lcu:lu≤cu:=by omega
   clear hcV hu5 hBu hnn hlu hm l2 hma hva hca hu4 hr4 hlen hown0 hV ha2 hb1 lS hlu2 hSA m2a m23 m3 m4
   have em1:(m:Int)-1=((m-1:Nat):Int):=by omega
   go_wp2_with fail
   go_loopg [13] m (fun j jv wr=>jv=.int .i64 ((j:Int)-1)∧j≤m∧∃(U O:List Nat),Mod [gu,gq] w6 wr∧Blk wr gu 3 (U.map i64++rest)∧Blk wr gq 3 (O.map i64)∧Hid (DivAt (valS SA) V U O m j))
   case atStart=>exact⟨by rw[em1],Nat.le_refl _,_,_,Mod.refl _ _,hBu6,hBq,hs0⟩
   case round=>
    clear ha hb C hx0 hxb ek g1 hkl hc HX HK hBu6 hBq hs0 em1 em hmk m6 hlt hcu hmu
    obtain⟨rfl,hj,U,O,hm,hU,hO,hD⟩:=hrel
    obtain⟨j,hgk⟩:∃j,j=gk:=⟨_,rfl⟩
    subst hgk
    have hlU:U.length=lu:=by rw[hD.out.lenU,←HNN.out,HL2.out]
    have hlO:O.length=m:=hD.out.lenO
    cases j with
    |zero=>
     have sO:SliceK i64 wr (sl gq 0 m m) O:=.inr ⟨gq,0,m,by rw[hlO],by omega,fun i hi=>by rw[Nat.zero_add];exact hO.at i hi⟩
     have sU:SliceK i64 wr (sl gu 0 lu cu) U:=.inr ⟨gu,0,cu,by rw[hlU],by omega,fun i hi=>by rw[Nat.zero_add];exact hU.atR i hi⟩
     have m0r:Mod [] w wr:=Mod.keep m06 hm (by intro a ha;simp at ha;have:=m02.size;have:=m5.size;omega)
     have HF:=hide hD.out.fin
     have HLO:=hide hlO
     have HLU2:=hide hlU
     clear hlO hlU
     go_wp2_with fail
     refine(c_trimS _ O _ sO hD.out.digO (by have:=HLO.out;omega)).mono ?_
     rintro e w7 ⟨v7,Q,rfl,m7,hQ,cQ,eQ,lQ⟩
     have EQ:=hide eQ
     clear eQ
     go_wp2_with fail
     refine(c_trimS _ U _ (sU.mod m7 (by simp)) hD.out.digU (by have:=HLU2.out;omega)).mono ?_
     rintro e w8 ⟨v8,R,rfl,m8,hR,cR,eR,lR⟩
     have lR2:R.length≤100000:=by have:=HLU2.out;omega
     have ER:=hide eR
     clear eR
     go_wp2_with fail
     refine(c_Shr v8 R s w8 hR cR.digits hs16 lR2).mono ?_
     rintro e w9 ⟨v9,R9,rfl,m9,hR9,cR9,eR9,lR9⟩
     have ER9:=hide eR9
     have m09:Mod [] w w9:=m0r.then (m7.then (m8.then m9))
     have hQ9:=hQ.mod (m8.then m9) (by simp)
     clear eR9
     go_wp2_with fail
     go_ret2
     have h2s:0<2^s:=Nat.pow_pos (by omega)
     have q1:valS Q=valS A/valS B:=by rw[EQ.out,HF.out.1,ESA.out,EV.out,Nat.mul_div_mul_right _ _ h2s]
     have q2:valS R9=valS A%valS B:=by rw[ER9.out,ER.out,HF.out.2,ESA.out,EV.out,Nat.mul_mod_mul_right,Nat.mul_div_cancel _ h2s]
     exact⟨v7,v9,Q,R9,rfl,m09,hQ9,cQ,q1,Canon.length_le cA.digits cQ (by rw[q1];exact Nat.div_le_self _ _),hR9,cR9,q2,Canon.length_le cA.digits cR9 (by rw[q2];exact Nat.mod_le _ _)⟩
    |succ j=>
     have ej:Hid (((j+1:Nat):Int)-1=(j:Int)):=hide (by omega)
     rw[ej.out]
     have hR:RoundOk U V j:=⟨by rw[←HNN.out];exact l3,cV,HNO.out,hD.out.digU,hD.out.top⟩
     have HR:=hide hR
     have nn:=HNN.out
     obtain⟨n1,hn1⟩:∃n1,n1=n-1:=⟨_,rfl⟩
     obtain⟨n2,hn2⟩:∃n2,n2=n-2:=⟨_,rfl⟩
     obtain⟨jn,hjn⟩:∃jn,jn=j+n:=⟨_,rfl⟩
     obtain⟨jn1,hjn1⟩:∃jn1,jn1=j+n1:=⟨_,rfl⟩
     obtain⟨jn2,hjn2⟩:∃jn2,jn2=j+n2:=⟨_,rfl⟩
     have l2:=HL2.out
     have bjn:jn<lu:=by omega
     have hV1:=(hV6.mod hm (by intro x hx;simp at hx;intro b o n c e;simp only[Value.slice.injEq,Option.some.injEq,Addr.mk.injEq]at e;obtain⟨⟨rfl,_⟩,_⟩:=e;omega))
     obtain⟨b',o',e',hcv',hcV⟩:=hV1.at (by omega)
     simp only[Option.some.injEq,Addr.mk.injEq]at e'
     obtain⟨rfl,rfl,-⟩:=e'
     have cU0:=hU.atR jn (by omega)
     have cU1:=hU.atR jn1 (by omega)
     have cU2:=hU.atR jn2 (by omega)
     have cV1:=hcV n1 (by omega)
     have cV2:=hcV n2 (by omega)
     obtain⟨a0,ha0⟩:∃a0,a0=nth U jn:=⟨_,rfl⟩
     obtain⟨a1,ha1⟩:∃a1,a1=nth U jn1:=⟨_,rfl⟩
     obtain⟨a2,ha2⟩:∃a2,a2=nth U jn2:=⟨_,rfl⟩
     obtain⟨v1,hv1⟩:∃v1,v1=nth V n1:=⟨_,rfl⟩
     obtain⟨v2,hv2⟩:∃v2,v2=nth V n2:=⟨_,rfl⟩
     rw[←ha0]at cU0
     rw[←ha1]at cU1
     rw[←ha2]at cU2
     rw[←hv1]at cV1
     rw[←hv2]at cV2
     have ba0:a0<65536:=by rw[ha0];exact hD.out.digU _
     have ba1:a1<65536:=by rw[ha1];exact hD.out.digU _
     have ba2:a2<65536:=by rw[ha2];exact hD.out.digU _
     have bv1:v1<65536:=by rw[hv1];exact cV.digits _
     have bv2:v2<65536:=by rw[hv2];exact cV.digits _
     have nv1:32768≤v1:=by have:=HNO.out;rw[←nn,←hn1,←hv1]at this;exact this
     obtain⟨t,ht⟩:∃t,t=a0*65536+a1:=⟨_,rfl⟩
     have hEst:=Est.start hR (t:=t) (by rw[←nn,←hn1,←hjn,←hjn1,←ha0,←ha1];exact ht)
     rw[←nn,←hn1,←hv1]at hEst
     obtain⟨h0,hh0⟩:∃h0,h0=t/v1:=⟨_,rfl⟩
     obtain⟨r0,hr0⟩:∃r0,r0=t%v1:=⟨_,rfl⟩
     rw[←hh0,←hr0]at hEst
     have HES:=hide hEst
     have HEQ:=hide (show a2=nth U (j+(V.length-2))∧v2=nth V (V.length-2)∧v1=nth V (V.length-1)by rw[←nn,←hn2,←hn1,←hjn2];exact⟨ha2,hv2,hv1⟩)
     have HCE:=hide (show nth U jn2=a2∧nth V n1=v1∧nth V n2=v2 from⟨ha2.symm,hv1.symm,hv2.symm⟩)
     have bt:t<4294967296:=by omega
     have br0:r0<65536:=by have:r0<v1:=by rw[hr0];exact Nat.mod_lt _ (by omega)
                           omega
     have bh0:h0<131072:=hEst.small hR
     have f1:(j:Int)+(n:Int)=(jn:Int):=by omega
     have f2:(jn:Int)-1=(jn1:Int):=by omega
     have f3:(jn:Int)-2=(jn2:Int):=by omega
     have f4:(n:Int)-1=(n1:Int):=by omega
     have f5:(n:Int)-2=(n2:Int):=by omega
     have f6:(a0:Int)*65536+(a1:Int)=(t:Int):=by omega
     have f7:(t:Int)/(v1:Int)=(h0:Int):=by rw[hh0];exact(Int.natCast_ediv _ _).symm
     have f8:(t:Int)%(v1:Int)=(r0:Int):=by rw[hr0];exact(Int.natCast_emod _ _).symm
     have f9:((v1:Int) == 0)=false:=by simp;omega
     have fz:¬v1=0:=by omega
     have g0:(jn:Int)<(lu:Int):=by omega
     have g1:(jn1:Int)<(lu:Int):=by omega
     have g2:(jn2:Int)<(lu:Int):=by omega
     have g3:(n1:Int)<(n:Int):=by omega
     have g4:(n2:Int)<(n:Int):=by omega
     have bj:j≤100000:=by omega
     have bjn2:jn≤100000:=by omega
     have HJN:Hid (jn2+2=jn∧n1+1=n∧n2+2=n∧jn=j+n∧jn<lu):=hide (by omega)
     obtain⟨je,hje⟩:∃je,je=jn+1:=⟨_,rfl⟩
     have fje:(jn:Int)+1=(je:Int):=by omega
     have gje:(j:Int)≤(je:Int):=by omega
     have gje2:(je:Int)≤(cu:Int):=by omega
     have gje3:¬cu=j:=by omega
     have HJE:Hid (je-j=V.length+1):=hide (by omega)
     have HJM:Hid (j+(je-j)≤U.length∧U.length≤200000∧V.length≤je-j):=hide (by omega)
     have hap:Apart (sl bv ov n cv) gu:=by intro b o n c e;simp only[Value.slice.injEq,Option.some.injEq,Addr.mk.injEq]at e;obtain⟨⟨rfl,_⟩,_⟩:=e;exact hap1
     have HC':∀wx,Mod [gu,gq] w6 wx→Hid (SliceK i64 wx (sl bv ov n cv) V):=fun wx hmx=>hide (hV6.mod hmx (by intro x hx;simp at hx;intro b o n c e;simp only[Value.slice.injEq,Option.some.injEq,Addr.mk.injEq]at e;obtain⟨⟨rfl,_⟩,_⟩:=e;omega))
     have HLO:=hide hlO
     have HLU2:=hide hlU
     clear hje hEst ha0 ha1 ha2 hv1 hv2 hn1 hn2 hjn hjn1 hjn2 ht hh0 hr0 l2 nn hR hlO hlU hcV
     go_wp2_with fail
     go_quiet (fail)
     go_wp2_with fail
     go_quiet (fail)
     have HC:∀wx,Mod [gu,gq] w6 wx→Blk wx gu 3 (U.map i64++rest)→Hid (wx.cell? ⟨gu,jn2,none⟩=some (i64 a2)∧wx.cell? ⟨bv,ov+n1,none⟩=some (i64 v1)∧wx.cell? ⟨bv,ov+n2,none⟩=some (i64 v2)∧SliceK i64 wx (sl bv ov n cv) V):=by
      intro wx hmx hUx
      have hVx:=HC' wx hmx
      obtain⟨b',o',e',hcv',hcV⟩:=hVx.out.at (by rw[←HNN.out];omega)
      simp only[Option.some.injEq,Addr.mk.injEq]at e'
      obtain⟨rfl,rfl,-⟩:=e'
      have hjx:=HJN.out
      have hlx:=HLU2.out
      have hnx:=HNN.out
      refine hide ⟨by rw[hUx.atR jn2 (by omega),HCE.out.1],by rw[hcV n1 (by omega),HCE.out.2.1],by rw[hcV n2 (by omega),HCE.out.2.2],hVx.out⟩
     have HCC:=hide (And.intro HC HC')
     clear cU0 cU1 cU2 cV1 cV2 HC HC'
     go_upto_block 4 with fail
     go_cut [15,16] (fun hv rv wx=>∃h:Nat,hv=i64 h∧Mod [gu,gq] w6 wx∧Blk wx gu 3 (U.map i64++rest)∧Blk wx gq 3 (O.map i64)∧Hid (Fine U V j h))
     case first=>
      go_wp2_with fail
      go_loopg [15,16] h0 (fun h hv rv wx=>hv=i64 h∧∃r:Nat,rv=i64 r∧r<65536∧Mod [gu,gq] w6 wx∧Blk wx gu 3 (U.map i64++rest)∧Blk wx gq 3 (O.map i64)∧Hid (Est U V j h r))
      case atStart=>exact⟨rfl,r0,by rw[f8],br0,(hm.drewN _).drewN _,(hU.drewN _).drewN _,(hO.drewN _).drewN _,HES⟩
      case round=>
       clear hm hU hO HES f6 f7 f8 f9 bh0 br0 bt fz
       obtain⟨rfl,r,rfl,br,hm,hU,hO,hE⟩:=hrel
       obtain⟨h,hgk⟩:∃h,h=gk:=⟨_,rfl⟩
       subst hgk
       obtain⟨cU2,cV1,cV2,-⟩:=(HCC.out.1 wr hm hU).out
       have bh2:h<131072:=hE.out.small HR.out
       obtain⟨q1,hq1⟩:∃q1,q1=h*v2:=⟨_,rfl⟩
       obtain⟨q2,hq2⟩:∃q2,q2=r*65536+a2:=⟨_,rfl⟩
       have e1:(h:Int)*(v2:Int)=(q1:Int):=by rw[hq1,Int.natCast_mul]
       have e2:(r:Int)*65536+(a2:Int)=(q2:Int):=by omega
       have bq1:q1≤131071*65535:=by rw[hq1];exact Nat.mul_le_mul (by omega) (by omega)
       by_cases ht1:65536≤h
       ·have ht1':(65536:Int)≤(h:Int):=by omega
        have hS:=hE.out.step HR.out (.inl ht1)
        clear hq1 hq2
        obtain⟨k,hk⟩:∃k,h=k+1:=⟨h-1,by omega⟩
        obtain⟨r1,hr1⟩:∃r1,r1=r+v1:=⟨_,rfl⟩
        have ek:(h:Int)-1=(k:Int):=by omega
        have er:(r:Int)+(v1:Int)=(r1:Int):=by omega
        have hE2:Hid (Est U V j k r1):=hide (by
         have h2:=hS.2
         rw[←HEQ.out.2.2,←hr1,show h-1=k by omega]at h2
         exact h2)
        have HKH:=hide hk
        have br1:r1<131072:=by omega
        have bk:k<131072:=by omega
        clear hS hk hr1
        by_cases hbr:r1<65536
        ·have nbr:¬(65536:Int)≤(r1:Int):=by omega
         have hd3:decide ((65536:Int)≤(r1:Int))=false:=decide_eq_false nbr
         have HBR:=hide hbr
         clear hbr nbr
         go_wp2_with fail
         go_quiet (fail)
         go_wp2_with fail
         go_roundg k
         case measure=>have:=HKH.out;omega
         case rel=>exact⟨rfl,r1,rfl,HBR.out,hm.drewN _,hU.drewN _,hO.drewN _,hE2⟩
        ·have nbr:(65536:Int)≤(r1:Int):=by omega
         have hF:Hid (Fine U V j k):=hide (Est.brk HR.out hE2.out (by omega))
         have bh:=hF.out.lt
         go_wp2_with fail
         go_quiet (fail)
         go_wp2_with fail
         go_meet
         exact⟨k,rfl,hm.drewN _,hU.drewN _,hO.drewN _,hF⟩
       ·have ht1':¬(65536:Int)≤(h:Int):=by omega
        have hd1:decide ((65536:Int)≤(h:Int))=false:=decide_eq_false ht1'
        have wn2:IntKind.i64.wrap (n2:Int)=(n2:Int):=by rw[IntKind.wrap_i64];omega
        have wjn2:IntKind.i64.wrap (jn2:Int)=(jn2:Int):=by rw[IntKind.wrap_i64];omega
        have wq1:IntKind.i64.wrap (q1:Int)=(q1:Int):=by rw[IntKind.wrap_i64];omega
        have wq2:IntKind.i64.wrap (q2:Int)=(q2:Int):=by rw[IntKind.wrap_i64];omega
        have bh:h<65536:=by omega
        by_cases ht2:q2<q1
        ·have ht2':(q2:Int)<(q1:Int):=by omega
         have hd2:decide ((q2:Int)<(q1:Int))=true:=decide_eq_true ht2'
         have hS:=hE.out.step HR.out (.inr (by rw[←HEQ.out.1,←HEQ.out.2.1,←hq1,←hq2];exact ht2))
         clear hq1 hq2
         obtain⟨k,hk⟩:∃k,h=k+1:=⟨h-1,by omega⟩
         obtain⟨r1,hr1⟩:∃r1,r1=r+v1:=⟨_,rfl⟩
         have ek:(h:Int)-1=(k:Int):=by omega
         have er:(r:Int)+(v1:Int)=(r1:Int):=by omega
         have hE2:Hid (Est U V j k r1):=hide (by
          have h2:=hS.2
          rw[←HEQ.out.2.2,←hr1,show h-1=k by omega]at h2
          exact h2)
         have HKH:=hide hk
         have br1:r1<131072:=by omega
         have bk:k<131072:=by omega
         clear hS hk hr1
         by_cases hbr:r1<65536
         ·have nbr:¬(65536:Int)≤(r1:Int):=by omega
          have hd3:decide ((65536:Int)≤(r1:Int))=false:=decide_eq_false nbr
          have HBR:=hide hbr
          clear hbr nbr
          go_wp2_with fail
          go_quiet (fail)
          go_wp2_with fail
          go_roundg k
          case measure=>have:=HKH.out;omega
          case rel=>exact⟨rfl,r1,rfl,HBR.out,hm.drewN _,hU.drewN _,hO.drewN _,hE2⟩
         ·have nbr:(65536:Int)≤(r1:Int):=by omega
          have hF:Hid (Fine U V j k):=hide (Est.brk HR.out hE2.out (by omega))
          have bh:=hF.out.lt
          go_wp2_with fail
          go_quiet (fail)
          go_wp2_with fail
          go_meet
          exact⟨k,rfl,hm.drewN _,hU.drewN _,hO.drewN _,hF⟩
        ·have ht2':¬(q2:Int)<(q1:Int):=by omega
         have hd2:decide ((q2:Int)<(q1:Int))=false:=decide_eq_false ht2'
         have hF:Hid (Fine U V j h):=hide (Est.exit HR.out hE.out bh (by rw[←HEQ.out.1,←HEQ.out.2.1,←hq1,←hq2];omega))
         clear hq1 hq2
         go_wp2_with fail
         go_quiet (fail)
         go_wp2_with fail
         go_meet
         exact⟨h,rfl,hm.drewN _,hU.drewN _,hO.drewN _,hF⟩
     case rest=>
      clear hm hU hO HES f6 f7 f8 f9 bh0 br0 bt fz
      obtain⟨h,rfl,hm,hU,hO,hF⟩:=hcut
      have bh:=hF.out.lt
      have hVx:=(HCC.out.1 wc hm hU).out.2.2.2
      have hjm:=HJM.out
      go_wp2_with fail
      refine(c_taken gu j (je-j) (cu-j) h (sl bv ov n cv) U V rest wc hU hVx hap hD.out.digU cV.digits bh hjm.1 hjm.2.1 hjm.2.2).mono ?_
      rintro e w7 ⟨U1,p,c,rfl,m7,hU1,hK⟩
      have HK:=hide (HJE.out▸hK)
      clear hK
      have hm7:Mod [gu,gq] w6 w7:=Mod.trans (U:=[gu,gq]) hm m7 (fun a ha _=>ha) (fun a ha _=>by simp at ha;simp[ha])
      have hO7:=hO.mod m7 (by simp;omega)
      have hV7:=(HCC.out.2 w7 hm7).out
      by_cases hc:c=1
      ·subst hc
       have hd1:=HK.out.digits
       have hl1:=HK.out.len
       have hjm1:j+(je-j)≤U1.length:=by rw[hl1];exact hjm.1
       have hjm2:U1.length≤200000:=by rw[hl1];exact hjm.2.1
       have h1:1≤h:=by
        rcases Nat.eq_zero_or_pos h with h0|h0
        ·exfalso
         have k1:=HK.out.val
         have k2:=HK.out.fin (by omega)
         rw[h0,Nat.zero_mul,k2]at k1
         have k3:=segS_lt hd1 j (V.length+1)
         omega
        ·exact h0
       obtain⟨k,hk⟩:∃k,h=k+1:=⟨h-1,by omega⟩
       have ek:(h:Int)-1=(k:Int):=by omega
       have bk:k<65536:=by omega
       have HKK:=hide hk
       clear hl1 h1 hk hjm
       go_wp2_with fail
       refine(c_back gu j (je-j) (cu-j) (sl bv ov n cv) U1 V rest w7 hU1 hV7 hap hd1 cV.digits hjm1 hjm2 HJM.out.2.2).mono ?_
       rintro e w8 ⟨U2,d,rfl,m8,hU2,hB⟩
       have HB:=hide (HJE.out▸hB)
       clear hB
       have hm8:Mod [gu,gq] w6 w8:=Mod.trans (U:=[gu,gq]) hm7 m8 (fun a ha _=>ha) (fun a ha _=>by simp at ha;simp[ha])
       have hO8:=hO7.mod m8 (by simp;omega)
       have hfz:=hO8.frozen j
       have hcq:=hO8.at j (by have:=HLO.out;omega)
       have hnext:Hid (DivAt (valS SA) V U2 (O.set j k) m j):=by
        obtain⟨f1,f2,f3⟩:=Fine.over HR.out hF.out HK.out HB.out
        refine hide (hD.out.next hj bk HB.out.digits (HB.out.len.trans HK.out.len) (fun i hi=>by rw[HB.out.rest i hi,HK.out.rest i hi]) ?_ f3 (valS_lt cV.digits))
        have:=HKK.out
        rw[show h-1=k by omega]at f2
        exact f2
       have hm9:Mod [gu,gq] w6 (w8.setCell ⟨gq,j,none⟩ (.int .i64 (k:Int))):=hm8.setCell _ _ (by simp)
       have hO9:Blk (w8.setCell ⟨gq,j,none⟩ (.int .i64 (k:Int))) gq 3 ((O.set j k).map i64):=hO8.set j k
       have hU9:Blk (w8.setCell ⟨gq,j,none⟩ (.int .i64 (k:Int))) gu 3 (U2.map i64++rest):=hU2.setCell_other _ _ hap3
       clear hd1 hjm1 hjm2
       go_wp2_with fail
       go_roundg j
       case measure=>omega
       case rel=>exact⟨by go_num,by omega,U2,_,hm9,hU9,hO9,hnext⟩
      ·have hc2:decide (c=1)=false:=decide_eq_false hc
       have hfz:=hO7.frozen j
       have hcq:=hO7.at j (by have:=HLO.out;omega)
       have hnext:Hid (DivAt (valS SA) V U1 (O.set j h) m j):=by
        obtain⟨f2,f3⟩:=Fine.keep HR.out hF.out HK.out hc
        exact hide (hD.out.next hj bh HK.out.digits HK.out.len (fun i hi=>HK.out.rest i hi) f2 f3 (valS_lt cV.digits))
       have hm9:Mod [gu,gq] w6 (w7.setCell ⟨gq,j,none⟩ (.int .i64 (h:Int))):=hm7.setCell _ _ (by simp)
       have hO9:Blk (w7.setCell ⟨gq,j,none⟩ (.int .i64 (h:Int))) gq 3 ((O.set j h).map i64):=hO7.set j h
       have hU9:Blk (w7.setCell ⟨gq,j,none⟩ (.int .i64 (h:Int))) gu 3 (U1.map i64++rest):=hU1.setCell_other _ _ hap3
       rw[hc2]
       clear hjm hc hc2
       go_wp2_with fail
       go_roundg j
       case measure=>omega
       case rel=>exact⟨by go_num,by omega,U1,_,hm9,hU9,hO9,hnext⟩
theorem Canon.length_lt{L:List Nat}(h:Canon L){k:Nat}(hk:valS L<65536^k):L.length≤k:=by
 rcases Nat.eq_zero_or_pos L.length with h0|h0
 ·omega
 ·have h1:=valS_ge h (by omega)
  apply Classical.byContradiction
  intro hn
  have:65536^k≤65536^(L.length-1):=Nat.pow_le_pow_right (by omega) (by omega)
  omega
theorem Canon.zero{L:List Nat}(h:Canon L):valS L=0↔L.length=0:=by
 constructor
 ·intro h0
  rcases Nat.eq_zero_or_pos L.length with h1|h1
  ·exact h1
  ·have:=valS_ge h (by omega)
   have:0<65536^(L.length-1):=Nat.pow_pos (by omega)
   omega
 ·intro h0
  rw[List.eq_nil_of_length_eq_zero h0];rfl
def IntIs(w:World)(v:Value)(z:Int):Prop:=∃s L,v=.agg #[.bool (decide (z<0)),s]∧SliceK i64 w s L∧Canon L∧valS L=z.natAbs
theorem IntIs.mod{w w':World}{v:Value}{z:Int}(h:IntIs w v z)(m:Mod [] w w'):IntIs w' v z:=by
 obtain⟨s,L,h1,h2,h3,h4⟩:=h
 exact⟨s,L,h1,h2.mod m (by simp),h3,h4⟩
theorem load_int{w:World}{p:Nat}{c0 c1:Value}(h0:w.cell? ⟨p,0,none⟩=some c0)(h1:w.cell? ⟨p,1,none⟩=some c1):(loadVar 80 ⟨p,0,none⟩).run Tryz.prog w=.ok (.agg #[c0,c1]) w:=by
 go_simp
theorem results_cell1{P:Program}{fn:Func}{t ty:Nat}{tmps:Array Value}{p:Addr}{v:Value}{w:World}(h:fn.results=#[.cell t ty])(hp:tmps.getD t undef=.pointer (some p))(hl:(loadVar ty p).run P w=.ok v w) :
 (results fn tmps).run P w=.ok v w:=by
 have hp2:tmps[t]?.getD undef=.pointer (some p):=by simpa using hp
 simp[results,h,hp2,asAddr,hl]
abbrev IntAt(w:World)(p:Nat)(v:Value):Prop:=∃c0 c1,v=.agg #[c0,c1]∧w.cell? ⟨p,0,none⟩=some c0∧w.cell? ⟨p,1,none⟩=some c1
theorem blk2{w:World}{p T:Nat}{c0 c1:Value}(h:Blk w p T [c0,c1]):IntAt w p (.agg #[c0,c1]):=⟨c0,c1,rfl,by rw[h.cell];rfl,by rw[h.cell];rfl⟩
theorem results_int{fn:Func}{t p:Nat}{tmps:Array Value}{v:Value}{w:World}(h:fn.results=#[.cell t 80])(hp:tmps.getD t undef=.pointer (some ⟨p,0,none⟩))(hv:IntAt w p v) :
 (results fn tmps).run Tryz.prog w=.ok v w:=by
 obtain⟨c0,c1,rfl,h0,h1⟩:=hv
 exact results_cell1 h hp (load_int h0 h1)
theorem IntIs.neg{w:World}{s:Value}{L:List Nat}(hs:SliceK i64 w s L)(hc:Canon L)(h0:valS L≠0):IntIs w (.agg #[.bool true,s]) (-(valS L:Int)):=
 ⟨s,L,by rw[decide_eq_true (by omega)],hs,hc,by omega⟩
theorem IntIs.pos{w:World}{s:Value}{L:List Nat}(hs:SliceK i64 w s L)(hc:Canon L):IntIs w (.agg #[.bool false,s]) (valS L:Int):=
 ⟨s,L,by rw[decide_eq_false (by omega)],hs,hc,by omega⟩
set_option maxRecDepth 100000 in
theorem c_Make(b:Bool)(vs:Value)(L:List Nat)(w:World)(hs:SliceK i64 w vs L)(hc:Canon L) :
 Calls Tryz.prog 38 #[.bool b,vs] w fun e w'=>∃v,e=.returned v∧Mod [] w w'∧IntIs w' v (if b then -(valS L:Int)else valS L):=by
 obtain⟨a,c,rfl⟩:=hs.lit
 have hz:=hc.zero
 have m1:∀u v,Mod [] w (w.alloc (.cells #[u,v] 80)):=fun u v=>(Mod.refl [] w).alloc _
 have hI:∀u v,IntAt (w.alloc (.cells #[u,v] 80)) w.heap.size (.agg #[u,v]):=fun u v=>blk2 (Blk.new w _ [u,v])
 cases b
 ·go_enter Tryz.func38,Tryz.ntmps38
  go_wp2_with fail
  refine bodyPost_ret (results_int rfl rfl (hI _ _)) rfl ?_
  exact⟨_,rfl,m1 _ _,IntIs.pos (hs.mod (m1 _ _) (by simp)) hc⟩
 ·by_cases h0:L.length=0
  ·have e0:¬(0:Int)<(L.length:Int):=by omega
   have hv0:=hz.2 h0
   clear hz h0
   go_enter Tryz.func38,Tryz.ntmps38
   go_wp2_with fail
   refine bodyPost_ret (results_int rfl rfl (hI _ _)) rfl ?_
   rw[decide_eq_false (by omega)]
   exact⟨_,rfl,m1 _ _,by have:=IntIs.pos (hs.mod (m1 (.bool false) (.slice a L.length c)) (by simp)) hc;rw[hv0]at this;exact this⟩
  ·have e0:(0:Int)<(L.length:Int):=by omega
   have hv0:valS L≠0:=fun h=>h0 (hz.1 h)
   have HV:=hide hv0
   clear hz h0 hv0
   go_enter Tryz.func38,Tryz.ntmps38
   go_wp2_with fail
   refine bodyPost_ret (results_int rfl rfl (hI _ _)) rfl ?_
   rw[decide_eq_true (by omega)]
   exact⟨_,rfl,m1 _ _,IntIs.neg (hs.mod (m1 _ _) (by simp)) hc HV.out⟩
theorem c_DivMod(va vb:Value)(A B:List Nat)(w:World)(ha:SliceK i64 w va A)(hb:SliceK i64 w vb B)(cA:Canon A)(cB:Canon B)(lA:A.length≤50000)(hB:valS B≠0) :
 Calls Tryz.prog 34 #[va,vb] w (DivPost A B w):=by
 rcases Nat.lt_or_ge (valS A) (valS B)with hlt|hge
 ·exact c_DivMod_lt va vb A B w ha hb cA cB lA hlt
 ·have h0:B.length≠0:=fun h=>hB (cB.zero.2 h)
  by_cases h1:B.length=1
  ·exact c_DivMod_one va vb A B w ha hb cA cB lA hge h1
  ·exact c_DivMod_long va vb A B w ha hb cA cB lA hge (by omega)
set_option maxRecDepth 100000 in
theorem c_Gcd(va vb:Value)(A B:List Nat)(w:World)(ha:SliceK i64 w va A)(hb:SliceK i64 w vb B)(cA:Canon A)(cB:Canon B)(lA:A.length≤50000)(lB:B.length≤50000) :
 Calls Tryz.prog 36 #[va,vb] w fun e w'=>∃v L,e=.returned v∧Mod [] w w'∧SliceK i64 w' v L∧Canon L∧valS L=Nat.gcd (valS A) (valS B):=by
 go_enter Tryz.func36,Tryz.ntmps36
 go_wp2_with fail
 go_loopg [0,1] (valS B) (fun k a b wr=>∃va' vb' A' B',va'=a∧vb'=b∧Mod [] w wr∧SliceK i64 wr va' A'∧SliceK i64 wr vb' B'∧Canon A'∧Canon B'∧A'.length≤50000∧B'.length≤50000∧Hid (valS B'=k)∧Hid (Nat.gcd (valS A') (valS B')=Nat.gcd (valS A) (valS B)))
 case atStart=>exact⟨va,vb,A,B,rfl,rfl,Mod.refl _ _,ha,hb,cA,cB,lA,lB,hide rfl,hide rfl⟩
 case round=>
  obtain⟨va',vb',A',B',rfl,rfl,hm,hA,hB,kA,kB,lA',lB',hk,hg⟩:=hrel
  obtain⟨ab,cb,hvb⟩:=hB.lit
  subst hvb
  by_cases h0:B'.length=0
  ·obtain rfl:=List.eq_nil_of_length_eq_zero h0
   clear h0
   simp only[List.length_nil]at *
   go_wp2_with fail
   go_ret
   exact⟨va',A',rfl,hm,hA,kA,by have:=hg.out;simpa [valS]using this⟩
  ·have hne:valS B'≠0:=fun h=>h0 (kB.zero.1 h)
   have hpos:(0:Int)<(B'.length:Int):=by omega
   have C:=hide (c_DivMod va' (.slice ab B'.length cb) A' B' wr hA hB kA kB lA' hne)
   have HNE:=hide hne
   clear h0 hne
   go_wp2_with fail
   refine C.out.mono ?_
   rintro e w2 ⟨v1,v2,Q,R,rfl,m2,hQ,cQ,eQ,lQ,hR,cR,eR,lR⟩
   have m02:Mod [] w w2:=Mod.trans (U:=[]) hm m2 (by simp) (by simp)
   have ER:=hide eR
   have hB2:=hB.mod m2 (by simp)
   clear eR eQ C
   go_wp2_with fail
   go_roundg (valS R)
   case measure=>rw[ER.out,←hk.out];exact Nat.mod_lt _ (by have:=HNE.out;omega)
   case rel=>exact⟨_,v2,B',R,rfl,rfl,m02,hB2,hR,kB,cR,lB',by omega,hide rfl,hide (by rw[←hg.out,ER.out,Nat.gcd_comm (valS B'),←Nat.gcd_rec,Nat.gcd_comm])⟩
end Go.Proofs.YtfgmnbmnpihjdaaGreatDoor
