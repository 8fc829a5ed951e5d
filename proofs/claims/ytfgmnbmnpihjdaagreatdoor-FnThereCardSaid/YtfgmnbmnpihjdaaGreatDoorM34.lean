/- Lemmas of mine for the walk and its plain laws: NatW NatX NatY NatZ -/
import Derived.Test.YtfgmnbmnpihjdaaGreatDoorM33
import Derived.Deep.Cut
import Derived.Deep.DeepCutAuto
set_option linter.all false
set_option exponentiation.threshold 7000000
set_option maxHeartbeats 4000000
namespace Go.Proofs.YtfgmnbmnpihjdaaGreatDoor
open Go.RowKit
abbrev wordV(n:Nat):Value:=u64 n
theorem shift_next{a u i m:Nat}:(2*((a*2^(64-(i+1))+u/2^(i+1))%m)+u/2^i%2)%m=(a*2^(64-(i+1)+1)+u/2^i)%m:=by
 have e:u/2^i=2*(u/2^(i+1))+u/2^i%2:=by
  rw[Nat.pow_succ,←Nat.div_div_eq_div_mul];omega
 rw[Nat.add_mod,Nat.mul_mod_mod,←Nat.add_mod]
 congr 1
 have e2:2^(64-(i+1)+1)=2^(64-(i+1))*2:=by rw[Nat.pow_succ]
 rw[e2]
 generalize 2^(64-(i+1))=r
 generalize u/2^(i+1)=s at *
 generalize u/2^i=v at *
 have:a*(r*2)=2*(a*r):=by rw[←Nat.mul_assoc,Nat.mul_comm]
 omega
set_option maxRecDepth 100000 in
theorem c_shiftInG(w:World)(n m y q x p u:Nat)(M Q L R:List Nat)(hM:ModIs w n m y q M Q)(hx:NatIs w x p L R)(bL:Below' L M)(dqp:q≠p)(hu:u<W) :
 Calls Tryz.prog 123 #[ptr x,u64 u,ptr m] w fun e w'=>∃L',e=.returned (ptr x)∧Mod [p] w w'∧NatIs w' x p L' R∧Below' L' M∧val L'=(val L*W+u)%val M:=by
 obtain⟨N,hN⟩:∃N,N=M.length:=⟨_,rfl⟩
 have hcx:=hx.cell
 rw[bL.len,←hN]at hcx
 have hcap:=hx.cap
 rw[bL.len,←hN]at hcap
 have hx0:=hx.xlt
 have hp0:=hx.plt
 have hxp:=hx.ne
 have hMw:=hM
 obtain⟨o,k0,r,hh⟩:=hMw.head
 have hy:=hMw.nat
 have hqlt:=hM.nat.plt
 have hylt:=hM.nat.xlt
 have HLN:Hid (L.length=N):=hide (by rw[hN];exact bL.len)
 have HN:=hide hN
 have HU:=hide hu
 have hroom:=hM.room
 rw[←hN]at hroom
 have hgt:u/2^64=0:=Nat.div_eq_of_lt (by rw[W_eq]at hu;omega)
 have HST:Hid (Below' (selW 0 L (List.replicate N 0)) M∧val (selW 0 L (List.replicate N 0))=(val L*2^(64-64)+u/2^64)%val M):=by
  refine hide ⟨bL,?_⟩
  rw[hgt,Nat.sub_self,Nat.pow_zero,Nat.mul_one,Nat.add_zero,Nat.mod_eq_of_lt bL.lt];rfl
 have WL:=hide bL.words
 clear hN bL hu hgt
 go_enter Tryz.func123,Tryz.ntmps123
 go_wp2_with fail
 refine(c_NewNat _).mono ?_
 rintro e w1 ⟨t,pt,rfl,m1,ht1,g1,g2⟩
 have hh1:MHead w1 m y o k0 r:=Blk.mod hh m1 (by simp)
 have hy1:=hy.mod m1 (by simp) (by simp)
 have s1:=m1.size
 go_wp2_with fail
 refine(c_resetFor t pt m y q k0 o r [] _ M Q w1 ht1 hh1 hy1).mono ?_
 rintro e w2 ⟨pt2,Rt,rfl,m2,ht2,k2⟩
 rw[←HN.out]at ht2
 have hpt2:w.heap.size≤pt2:=k2.ge g2 s1
 have m12:Mod [] w w2:=Mod.trans (U:=[]) m1 m2 (by simp) (by simp;omega)
 have hx2:=hx.mod m12 (by simp) (by simp)
 have hh2:MHead w2 m y o k0 r:=Blk.mod hh m12 (by simp)
 have hy2:=hy.mod m12 (by simp) (by simp)
 have hc0:=hh2.c0
 have hcy:=hy2.cell
 rw[←HN.out]at hcy
 have hcx2:=hx2.cell
 rw[HLN.out]at hcx2
 have hct:=ht2.cell
 rw[List.length_replicate]at hct
 have s2:=m12.size
 have htp:=ht2.ne
 have cpt:N≤N+Rt.length:=by omega
 have cq:N≤N+Q.length:=by omega
 have cr:N≤N+R.length:=by omega
 have hcap2:=ht2.cap
 rw[List.length_replicate]at hcap2
 have hcap3:=hy2.cap
 rw[←HN.out]at hcap3
 have dxt:x≠pt2:=by omega
 have dtp:t≠p:=by omega
 have dpp:p≠pt2:=by omega
 have dqt:q≠pt2:=by omega
 have HR0:=hide ht2.row
 have HX0:=hide hx2.row
 clear m1 m2 ht1 hh1 hy1 k2 hcx hMw hh hy
 go_wp2_with fail
 go_loopw [12,13] (fun nv iv wr=>∃(i need:Nat) (X D:List Nat),nv=wordV need∧iv=.int .i64 ((i:Int)-1)∧need≤1∧i≤64∧Hid (X.length=N∧D.length=N)∧Hid (Words X∧Words D)∧Mod [p,pt2] w2 wr∧Blk wr p 51 ((X++R).map wordV)∧Blk wr pt2 51 ((D++Rt).map wordV)∧Hid (Below' (selW need X D) M∧val (selW need X D)=(val L*2^(64-i)+u/2^i)%val M)) (fun _ iv _=>(intOf iv+1).toNat)
 case atStart=>exact⟨64,0,L,_,rfl,rfl,by omega,by omega,hide ⟨HLN.out,by simp⟩,hide ⟨WL.out,Words.replicate0 _⟩,Mod.refl _ _,HX0.out,HR0.out,HST⟩
 case round=>
  obtain⟨i,need,X,D,rfl,rfl,hnd,hi,hl,hw,hm,hX,hD,hV⟩:=hrel
  have m0r:Mod [p] w wr:=Mod.trans (U:=[p]) m12 hm (by simp) (fun a ha hlt=>by simp at ha;rcases ha with rfl|rfl;simp;omega)
  cases i with
  |zero=>
   have hx3:NatIs wr x p X R:=hx2.put (by rw[hl.out.1,HLN.out]) (hm.block x hx2.xlt (by simp;exact⟨hxp,dxt⟩)) hX
   have ht3:NatIs wr t pt2 D Rt:=ht2.put (by rw[hl.out.2];simp) (hm.block t ht2.xlt (by simp;exact⟨dtp,htp⟩)) hD
   have C:=hide (c_assign x t p pt2 need X R D Rt wr hx3 ht3 (by rw[hl.out.1,hl.out.2]) hw.out.1 hw.out.2 hnd)
   go_wp2_with fail
   refine C.out.mono ?_
   rintro e w' ⟨rfl,m4,h4⟩
   have m5:Mod [p] w w':=Mod.trans (U:=[p]) m0r m4 (fun a ha _=>ha) (fun a ha _=>ha)
   go_wp2_with fail
   go_ret
   refine⟨_,rfl,m5,h4,hV.out.1,?_⟩
   rw[hV.out.2,Nat.pow_zero,Nat.div_one,W_two]
  |succ i=>
   have ei:Hid (((i+1:Nat):Int)-1=(i:Int)):=hide (by omega)
   rw[ei.out]
   obtain⟨c,hc⟩:∃c,c=u/2^i%2:=⟨_,rfl⟩
   have hc1:c≤1:=by omega
   have hbit:bits .and .u64 ((u:Int)/2^i) 1=(c:Int):=by
    have hd:u/2^i<18446744073709551616:=Nat.lt_of_le_of_lt (Nat.div_le_self _ _) (by have:=HU.out;rw[W_eq]at this;exact this)
    have h1:=bits_and_u64_nat (u/2^i) 1 hd (by omega)
    rw[Nat.and_one_is_mod,←hc]at h1
    have e:(u:Int)/2^i=((u/2^i:Nat):Int):=by rw[Int.natCast_ediv,Int.natCast_pow];rfl
    rw[e]
    exact_mod_cast h1
   obtain⟨S,hS⟩:∃S,S=selW need X D:=⟨_,rfl⟩
   have wS:Words S:=by rw[hS];unfold selW;split;exact hw.out.1;exact hw.out.2
   have lS:S.length=N:=by rw[hS];unfold selW;split;exact hl.out.1;exact hl.out.2
   have hSk:Hid (∀k,nth S k=if need=0 then nth X k else nth D k):=hide (fun k=>by rw[hS];unfold selW;split<;>rfl)
   rw[←hS]at hV
   have hNext:=hide (shift_round (D:=D) (c:=c) wS hw.out.1 hw.out.2 hM.words (lS.trans hl.out.1.symm) (HN.out.symm.trans hl.out.1.symm) (hl.out.2.trans hl.out.1.symm) hc1 hV.out.1.lt)
   rw[hl.out.1,hV.out.2,hc,shift_next,←hc,show 64-(i+1)+1=64-i by omega]at hNext
   have HLS:=hide lS
   have WS:=hide wS
   clear hS hc lS wS
   go_wp2_with fail
   refine(c_ctMask need hnd _).mono ?_
   rintro e w' ⟨rfl,rfl⟩
   go_wp2_with fail
   clear hbit
   go_loopw [14,15,17] (fun cv bv kv wx=>∃k:Nat,k≤N∧cv=wordV (dC S c k)∧bv=wordV (eC S M c k)∧kv=i64 k∧Mod [p,pt2] w2 wx∧Blk wx p 51 ((dL S X c k++R).map wordV)∧Blk wx pt2 51 ((eL S M D c k++Rt).map wordV)) (fun _ _ kv _=>N-(intOf kv).toNat)
   case atStart=>exact⟨0,by omega,rfl,rfl,rfl,hm,hX,hD⟩
   case round=>
    clear hm hX hD m0r
    obtain⟨k,hk,rfl,rfl,rfl,hm,hX,hD⟩:=hrel
    have hdc:=dC_le WS.out hc1 k
    have hec:=eC_le S M c k
    by_cases hlt:k<N
    ·have cX:wr.cell? ⟨p,k,none⟩=some (wordV (nth X k)):=by
      rw[hX.at k (by simp[dL_len,hl.out.1];omega),nth_append_left (by rw[dL_len,hl.out.1];exact hlt),dL_at _ _ _ (Nat.le_refl _)]
     have cD:wr.cell? ⟨pt2,k,none⟩=some (wordV (nth D k)):=by
      rw[hD.at k (by simp[eL_len,hl.out.2];omega),nth_append_left (by rw[eL_len,hl.out.2];exact hlt),eL_at _ _ _ (Nat.le_refl _)]
     have cM:=(hy2.mod hm (by simp;exact⟨hy2.head.ne hx2.row (by decide),hy2.head.ne ht2.row (by decide)⟩) (by simp;exact⟨dqp,dqt⟩)).at k (by rw[←HN.out];exact hlt)
     have hmk:=mask_word hnd (hw.out.1.nth k) (hw.out.2.nth k)
     rw[←hSk.out k]at hmk
     have fX:=hX.frozen k
     have fD:=hD.frozen k
     have hlt':(k:Int)<(N:Int):=by omega
     have hs1:Hid (addHi (nth S k) (nth S k) (dC S c k)=dC S c (k+1)):=hide rfl
     have hs2:Hid (addLo (nth S k) (nth S k) (dC S c k)=dW S c k):=hide rfl
     have hs3:Hid (subHi (dW S c k) (nth M k) (eC S M c k)=eC S M c (k+1)):=hide rfl
     go_wp2_with fail
     go_quiet (fail)
     obtain⟨wq,hwq⟩:∃wq,wq=wr.drewN nq:=⟨_,rfl⟩
     rw[←hwq]
     have qX:Blk wq p 51 ((dL S X c k++R).map wordV):=by rw[hwq];exact hX.drewN _
     have qD:Blk wq pt2 51 ((eL S M D c k++Rt).map wordV):=by rw[hwq];exact hD.drewN _
     have qm:Mod [p,pt2] w2 wq:=by rw[hwq];exact hm.drewN _
     have kX:wq.cell? ⟨p,k,none⟩=some (wordV (nth X k)):=by rw[hwq];exact cX
     have fqX:=qX.frozen k
     have cMq:wq.cell? ⟨q,k,none⟩=some (wordV (nth M k)):=by rw[hwq];exact cM
     have cDq:wq.cell? ⟨pt2,k,none⟩=some (wordV (nth D k)):=by rw[hwq];exact cD
     obtain⟨ws,hws⟩:∃ws,ws=wq.setCell ⟨p,k,none⟩ (.int .u64 (dW S c k:Int)):=⟨_,rfl⟩
     have hX2:Blk ws p 51 ((dL S X c (k+1)++R).map wordV):=by rw[hws];exact row_set qX (by rw[dL_len,hl.out.1];exact hlt)
     have hD2:Blk ws pt2 51 ((eL S M D c k++Rt).map wordV):=by rw[hws];exact qD.setCell_other _ _ (Ne.symm dpp)
     have cX2:ws.cell? ⟨p,k,none⟩=some (wordV (dW S c k)):=by
      rw[hX2.at k (by simp[dL_len,hl.out.1];omega),nth_append_left (by rw[dL_len,hl.out.1];exact hlt),dL,nth_set_same (by rw[dL_len,hl.out.1];exact hlt)]
     have cM2:ws.cell? ⟨q,k,none⟩=some (wordV (nth M k)):=by
      rw[hws,←cMq];exact World.cell?_of_block (Below.heap_setCell _ _ _ _ dqp)
     have cD2:ws.cell? ⟨pt2,k,none⟩=some (wordV (nth D k)):=by
      rw[hws,←cDq];exact World.cell?_of_block (Below.heap_setCell _ _ _ _ (Ne.symm dpp))
     have fD2:=hD2.frozen k
     have hm2:Mod [p,pt2] w2 ws:=by rw[hws];exact qm.setCell _ _ (by simp)
     have HWS:=hide hws
     clear hX hD hm cX cD cM fX fD hmk hwq qX qD qm cMq cDq hws
     go_wp2_with fail
     refine(c_Add _ _ _ hdc _).mono ?_
     rintro e w' ⟨rfl,rfl⟩
     rw[hs2.out,hs1.out]
     go_upto_region 18 with fail
     rw[←HWS.out]
     have hm3:Mod [p,pt2] w2 (ws.setCell ⟨pt2,k,none⟩ (wordV (subLo (dW S c k) (nth M k) (eC S M c k)))).drew:=(hm2.setCell _ _ (by simp)).drew
     have hX3:Blk (ws.setCell ⟨pt2,k,none⟩ (wordV (subLo (dW S c k) (nth M k) (eC S M c k)))).drew p 51 ((dL S X c (k+1)++R).map wordV):=hX2.setCell_other _ _ dpp
     have hD3:Blk (ws.setCell ⟨pt2,k,none⟩ (wordV (subLo (dW S c k) (nth M k) (eC S M c k)))).drew pt2 51 ((eL S M D c (k+1)++Rt).map wordV):=row_set hD2 (by rw[eL_len,hl.out.2];exact hlt)
     clear hX2 hD2 hm2
     go_region_with (first|(go_at_call 138;refine(c_Sub _ _ _ hec _).mono ?_;rintro e w' ⟨rfl,rfl⟩))
     all_goals go_wp2_with fail
     all_goals go_roundw
     all_goals first
      |exact⟨k+1,by omega,rfl,ret_word hs3.out,by go_num,hm3,hX3,hD3⟩
      |(simp[intOf];omega)
    ·obtain rfl:k=N:=by omega
     have hor:=or_bit (notB_le (eC S M c k)) hdc
     have hle:max (notB (eC S M c k)) (dC S c k)≤1:=by have:=notB_le (eC S M c k);omega
     go_wp2_with fail
     refine(c_not _ hec _).mono ?_
     rintro e w' ⟨rfl,rfl⟩
     go_wp2_with fail
     go_roundw
     case rel=>exact⟨i,max (notB (eC S M c k)) (dC S c k),dL S X c k,eL S M D c k,rfl,by go_num,hle,by omega,hide ⟨by rw[dL_len];exact hl.out.1,by rw[eL_len];exact hl.out.2⟩,hide ⟨dL_words hw.out.1 _ _,eL_words hw.out.2 _ _⟩,hm,hX,hD,hNext⟩
     case measure=>first|(simp[intOf];done)|(simp[intOf];omega)
theorem c_shiftIn(w0 w:World)(n m y q x p u:Nat)(M Q L R:List Nat)(h0:Mod [] w0 w)(hM:ModIs w0 n m y q M Q)(hx:NatIs w x p L R)(bL:Below' L M)(_gx:w0.heap.size≤x)(gp:w0.heap.size≤p)(hu:u<W) :
 Calls Tryz.prog 123 #[ptr x,u64 u,ptr m] w fun e w'=>∃L',e=.returned (ptr x)∧Mod [p] w w'∧NatIs w' x p L' R∧Below' L' M∧val L'=(val L*W+u)%val M:=
 c_shiftInG w n m y q x p u M Q L R (hM.mod h0) hx bL (by have:=hM.nat.plt;omega) hu
theorem val_shr{L:List Nat}(hL:Words L)(i:Nat)(hi:i≤L.length):val L/W^i=val (L.drop i):=by
 have h1:=val_split L i hi
 have h2:=val_lt (hL.take i)
 rw[List.length_take,Nat.min_eq_left hi]at h2
 rw[h1,Nat.add_mul_div_left _ _ (Nat.pow_pos W_pos),Nat.div_eq_of_lt h2,Nat.zero_add]
theorem val_shr_step{L:List Nat}(hL:Words L){i:Nat}(hi:i<L.length):val L/W^i=val L/W^(i+1)*W+nth L i:=by
 rw[val_shr hL i (by omega),val_shr hL (i+1) (by omega),List.drop_eq_getElem_cons hi,val_cons,nth_eq _ _ hi,Nat.mul_comm W,Nat.add_comm]
theorem row_ext{A B:List Nat}(hl:A.length=B.length)(h:∀t,nth A t=nth B t):A=B:=by
 apply List.ext_getElem hl
 intro t h1 h2
 rw[←nth_eq _ _ h1,←nth_eq _ _ h2]
 exact h t
structure ModRow(L O:List Nat)(N K j:Nat):Prop where
 len:O.length=N
 words:Words O
 at':∀t,nth O t=if j≤t∧t<K then nth L (L.length-K+t)else 0
theorem ModRow.start(L:List Nat)(N K:Nat):ModRow L (List.replicate N 0) N K K:=⟨by simp,Words.replicate0 _,fun t=>by rw[nth_replicate0,if_neg (by omega)]⟩
theorem ModRow.next{L O:List Nat}{N K j:Nat}(h:ModRow L O N K (j+1))(hL:Words L)(hj:j<K)(hK:K≤N):ModRow L (O.set j (nth L (L.length-K+j))) N K j:=by
 refine⟨by simp[h.len],h.words.set _ (hL.nth _),fun t=>?_⟩
 by_cases ht:t=j
 ·subst ht;rw[nth_set_same (by rw[h.len];omega),if_pos ⟨Nat.le_refl _,hj⟩]
 ·rw[nth_set_ne (by omega),h.at' t]
  by_cases h1:j≤t∧t<K
  ·rw[if_pos h1,if_pos (by omega)]
  ·rw[if_neg h1,if_neg (by omega)]
theorem ModRow.done{L O M:List Nat}{N K:Nat}(h:ModRow L O N K 0)(hL:Words L)(hK:K≤L.length)(hKN:K+1≤N∨K=0)(hM:M.length=N)(ht:nth M (N-1)≠0)(hN:0<N) :
 Below' O M∧val O=val L/W^(L.length-K):=by
 have e:O=padTo (L.drop (L.length-K)) N:=by
  refine row_ext (by rw[padTo_length (by simp;omega)];exact h.len) (fun t=>?_)
  rw[h.at' t]
  unfold padTo
  by_cases h4:t<K
  ·rw[if_pos ⟨by omega,h4⟩,nth_append_left (by simp;omega)]
   simp[nth]
  ·rw[if_neg (by omega),nth_append_right (by simp;omega),nth_replicate0]
 have hv:val O=val (L.drop (L.length-K)):=by rw[e,padTo_val]
 have hlt:val O<val M:=by
  have h1:=val_lt (hL.drop (L.length-K))
  rw[List.length_drop,←hv,show L.length-(L.length-K)=K by omega]at h1
  have h2:=val_split M (N-1) (by omega)
  have h3:val (M.drop (N-1))≠0:=by
   rw[List.drop_eq_getElem_cons (by omega),val_cons]
   rw[nth_eq _ _ (by omega)]at ht
   omega
  have h4:W^(N-1)*1≤W^(N-1)*val (M.drop (N-1)):=Nat.mul_le_mul_left _ (by omega)
  have h5:W^K≤W^(N-1):=Nat.pow_le_pow_right W_pos (by omega)
  omega
 refine⟨⟨by rw[h.len,hM],h.words,hlt⟩,?_⟩
 rw[hv,val_shr hL _ (by omega)]
set_option maxRecDepth 100000 in
theorem c_Mod(w0 w:World)(n m y q o po x px:Nat)(M Q Lo Ro L R:List Nat)(h0:Mod [] w0 w)(hM:ModIs w0 n m y q M Q)(hO:NatIs w o po Lo Ro)(hx:NatIs w x px L R)(wL:Words L)(go:w0.heap.size≤o)(gpo:w0.heap.size≤po)(dx:x≠o)(dp:px≠po) :
 Calls Tryz.prog 90 #[ptr o,ptr x,ptr m] w fun e w'=>∃p' X R',e=.returned (ptr o)∧Mod [o,po] w w'∧NatIs w' o p' X R'∧Kept w po p'∧w0.heap.size≤p'∧Below' X M∧val X=val L%val M:=by
 obtain⟨N,hN⟩:∃N,N=M.length:=⟨_,rfl⟩
 have hNp:0<N:=by rw[hN];exact len_pos hM.big
 obtain⟨K,hK⟩:∃K,K=min (N-1) L.length:=⟨_,rfl⟩
 obtain⟨D,hD⟩:∃D,D=L.length-K:=⟨_,rfl⟩
 have hMw:=hM.mod h0
 obtain⟨oo,kk,rr,hh⟩:=hMw.head
 have hy:=hMw.nat
 have hs0:=h0.size
 have hx0:=hx.xlt
 have hx1:=hx.plt
 have hcapx:=hx.cap
 have hroom:=hM.room
 rw[←hN]at hroom
 have HTOP:Hid (nth M (N-1)≠0):=hide (by rw[hN];exact hM.top (by have:=len_pos hM.big;omega))
 have HN:=hide hN
 have HK:=hide hK
 have HD:=hide hD
 have kN:K≤N:=by omega
 have kL:K≤L.length:=by omega
 have kD:D+K=L.length:=by omega
 have eK:Hid ((if (L.length:Int)-1<(N:Int)-2 then (L.length:Int)-1 else (N:Int)-2)=(K:Int)-1):=hide (by split<;>omega)
 clear hN hK hD
 go_enter Tryz.func90,Tryz.ntmps90
 go_wp2_with fail
 refine(c_resetFor o po m y q kk oo rr Lo Ro M Q w hO hh hy).mono ?_
 rintro e w1 ⟨p1,R1,rfl,m1,h1,k1⟩
 rw[←HN.out]at h1
 have gp1:w0.heap.size≤p1:=k1.ge gpo hs0
 have dp1:px≠p1:=k1.ne hx1 dp
 have h01:Mod [] w0 w1:=h0.keep2 m1 go gpo
 have hM1:=hM.mod h01
 obtain⟨o1,k1',r1,hh1⟩:=hM1.head
 have hc0:=hh1.c0
 have hcy:=hM1.nat.cell
 rw[←HN.out]at hcy
 have hx2:NatIs w1 x px L R:=hx.mod m1 (by simp;exact⟨dx,hx.head.ne hO.row (by decide)⟩) (by simp;exact⟨hx.row.ne hO.head (by decide),dp⟩)
 have hcx:=hx2.cell
 have hco:=h1.cell
 rw[List.length_replicate]at hco
 have hcap1:=h1.cap
 rw[List.length_replicate]at hcap1
 have hop:=h1.ne
 have dxp:x≠p1:=hx2.head.ne h1.row (by decide)
 have HMR:=hide (ModRow.start L N K)
 have HR0:=hide h1.row
 clear hMw hh hy
 go_upto_if 30 with fail
 go_cut [8] (fun jv wx=>jv=.int .i64 ((K:Int)-1)∧wx=w1)
 case first=>
  by_cases hlt:(L.length:Int)-1<(N:Int)-2
  ·have eK2:=eK.out
   rw[if_pos hlt]at eK2
   have EK2:=hide eK2
   clear eK2
   go_wp2_with fail
   go_meet
   exact⟨by rw[EK2.out],rfl⟩
  ·have eK2:=eK.out
   rw[if_neg hlt]at eK2
   have EK2:=hide eK2
   clear eK2
   go_wp2_with fail
   go_meet
   exact⟨by rw[EK2.out],rfl⟩
 case rest=>
  obtain⟨rfl,rfl⟩:=hcut
  go_wp2_with fail
  go_loopw [7,9] (fun iv jv wr=>∃(j:Nat) (O:List Nat),jv=.int .i64 ((j:Int)-1)∧iv=.int .i64 (((D+j:Nat):Int)-1)∧j≤K∧Mod [p1] wc wr∧Blk wr p1 51 ((O++R1).map wordV)∧Hid (ModRow L O N K j)) (fun _ jv _=>(intOf jv+1).toNat)
  case atStart=>exact⟨K,_,rfl,by rw[kD],by omega,Mod.refl _ _,HR0.out,HMR⟩
  case round=>
   clear HR0 HMR
   obtain⟨j,O,rfl,rfl,hj,hmr,hO',hMR⟩:=hrel
   have hxr:NatIs wr x px L R:=hx2.mod hmr (by simp;exact dxp) (by simp;exact dp1)
   have hcxr:=hxr.cell
   have hcor:wr.cell? ⟨o,0,none⟩=some (sl p1 0 N (N+R1.length)):=by rw[←hco];exact World.cell?_of_block (hmr.block o h1.xlt (by simp;exact hop))
   cases j with
   |succ j=>
    obtain⟨dj,hdj⟩:∃dj,dj=D+j:=⟨_,rfl⟩
    have e1:Hid (((j+1:Nat):Int)-1=(j:Int)):=hide (by omega)
    have e2:Hid (((D+(j+1):Nat):Int)-1=(dj:Int)):=hide (by omega)
    rw[e1.out,e2.out]
    have hlen:=hMR.out.len
    have hcp:=hxr.at dj (by omega)
    have hrow:=hO'.at j (by simp;omega)
    rw[nth_append_left (by omega)]at hrow
    have hfz:=hO'.frozen j
    have g1:(dj:Int)<(L.length:Int):=by omega
    have g2:(j:Int)<(N:Int):=by omega
    have hMR2:=hide (hMR.out.next wL (by omega) kN)
    rw[HD.out.symm,←hdj]at hMR2
    have hO2:Blk ((wr.setCell ⟨p1,j,none⟩ (wordV (nth L dj)))).drew p1 51 ((O.set j (nth L dj)++R1).map wordV):=row_set hO' (by omega)
    have hm2:Mod [p1] wc (wr.setCell ⟨p1,j,none⟩ (wordV (nth L dj))).drew:=(hmr.setCell _ _ (by simp)).drew
    have e3:Hid ((dj:Int)-1=((D+j:Nat):Int)-1):=hide (by omega)
    clear hlen hmr hO' hMR hdj hxr
    go_wp2_with fail
    go_region_with (fail)
    all_goals
     go_wp2_with fail
     go_roundw
     case rel=>exact⟨j,_,by go_num,by rw[←e3.out],by omega,hm2,hO2,hMR2⟩
     case measure=>first|(simp[intOf];done)|(simp[intOf];omega)
   |zero=>
    have hKN:K+1≤N∨K=0:=by have:=HK.out;omega
    have hdone:=hMR.out.done wL kL hKN HN.out.symm HTOP.out hNp
    rw[←HD.out]at hdone
    have nO:NatIs wr o p1 O R1:=h1.put (by rw[hMR.out.len];simp) (hmr.block o h1.xlt (by simp;exact hop)) hO'
    have HV:Hid (val O=val L/W^D%val M):=hide (by rw[←hdone.2,Nat.mod_eq_of_lt hdone.1.lt])
    have bO:=hdone.1
    have e0:Hid ((((0:Nat):Int))-1 = -1):=hide (by omega)
    rw[e0.out]
    have eD:D+0=D:=Nat.add_zero D
    rw[eD]
    clear hdone hMR hO' hKN eD hcor hcxr hxr
    obtain⟨wo,rfl⟩:∃wo:World,wo=wr:=⟨_,rfl⟩
    go_wp2_with fail
    go_loopw [7] (fun iv wr=>∃(i:Nat) (X:List Nat),iv=.int .i64 ((i:Int)-1)∧i≤D∧Mod [p1] wc wr∧NatIs wr o p1 X R1∧Below' X M∧Hid (val X=val L/W^i%val M)) (fun iv _=>(intOf iv+1).toNat)
    case atStart=>exact⟨D,O,rfl,by omega,hmr,nO,bO,HV⟩
    case round=>
     clear hmr nO bO HV
     obtain⟨i,X,rfl,hi,hmr,nX,bX,hV⟩:=hrel
     cases i with
     |succ i=>
      have e1:Hid (((i+1:Nat):Int)-1=(i:Int)):=hide (by omega)
      rw[e1.out]
      have hxr:NatIs wr x px L R:=hx2.mod hmr (by simp;exact dxp) (by simp;exact dp1)
      have hcxr:=hxr.cell
      have hcp:=hxr.at i (by omega)
      have g1:(i:Int)<(L.length:Int):=by omega
      have C:=hide (c_shiftIn w0 wr n m y q o p1 (nth L i) M Q X R1 (h01.keep1 hmr gp1) hM nX bX go gp1 (wL.nth i))
      have HVN:Hid (∀v,v=(val X*W+nth L i)%val M→v=val L/W^i%val M):=hide (fun v hv=>by
       rw[hv,hV.out,val_shr_step wL (show i<L.length by omega),Nat.add_mod,Nat.mod_mul_mod,←Nat.add_mod])
      clear hxr
      go_wp2_with fail
      refine C.out.mono ?_
      rintro e w3 ⟨X',rfl,m3,n3,b3,e3⟩
      have HE:=hide (HVN.out _ e3)
      have hm3:Mod [p1] wc w3:=Mod.trans (U:=[p1]) hmr m3 (fun a ha _=>ha) (fun a ha _=>ha)
      clear e3
      go_wp2_with fail
      go_roundw
      case rel=>exact⟨i,X',by go_num,by omega,hm3,n3,b3,HE⟩
      case measure=>first|(simp[intOf];done)|(simp[intOf];omega)
     |zero=>
      have hfin:Mod [o,po] w wr:=Mod.trans (U:=[o,po]) m1 hmr (fun a ha _=>ha) (fun a ha hlt=>by
       simp at ha
       rcases k1 with hk|hk
       ·rw[ha,hk];simp
       ·omega)
      have hVF:=hV.out
      rw[Nat.pow_zero,Nat.div_one]at hVF
      have HVF:=hide hVF
      clear hVF
      go_wp2_with fail
      go_ret
      exact⟨p1,X,R1,rfl,hfin,nX,k1,gp1,bX,HVF.out⟩
theorem seg_add(T:List Nat)(o a:Nat):∀b,seg T o (a+b)=seg T o a+W^a*seg T (o+a) b
 |0=>by simp[seg]
 |b+1=>by
  have ih:=seg_add T o a b
  rw[←Nat.add_assoc]
  simp only[seg]
  rw[ih,Nat.mul_add,Nat.pow_add,Nat.add_assoc,Nat.add_assoc,Nat.mul_assoc]
def pR(Z X Y:List Nat)(n:Nat):Nat→List Nat
 |0=>Z
 |i+1=>(mulL (pR Z X Y n i) X i 0 (nth Y i) n).set (n+i) (mulC (pR Z X Y n i) X i 0 (nth Y i) n)
theorem pR_len(Z X Y:List Nat)(n i:Nat):(pR Z X Y n i).length=Z.length:=by
 induction i with
 |zero=>rfl
 |succ i ih=>simp[pR,mulL_length,ih]
theorem pR_words{Z X Y:List Nat}(hZ:Words Z)(n i:Nat):Words (pR Z X Y n i):=by
 induction i with
 |zero=>exact hZ
 |succ i ih=>exact(mulL_words ih _ _ _ _ _).set _ (mulC_lt _ _ _ _ _ _)
theorem pR_val{Z X Y:List Nat}{n:Nat}(hZ:Words Z)(hX:Words X)(hY:Words Y)(hx:X.length=n)(hy:Y.length=n)(h0:seg Z 0 n=0)(hz:2*n≤Z.length):∀i,i≤n→seg (pR Z X Y n i) 0 (n+i)=val X*val (Y.take i):=by
 intro i
 induction i with
 |zero=>intro _;simp[pR,val,h0]
 |succ i ih=>
  intro hi
  have h1:=ih (by omega)
  have hl:=pR_len Z X Y n i
  have hw:=pR_words (X:=X) (Y:=Y) hZ n i
  have h2:=mulL_seg (oz:=i) (ox:=0) (y:=nth Y i) hw hX (hY.nth i) n (by omega)
  rw[seg_whole X n (by omega),List.take_of_length_le (by omega)]at h2
  have e1:∀v,seg ((mulL (pR Z X Y n i) X i 0 (nth Y i) n).set (n+i) v) 0 (n+i)=seg (mulL (pR Z X Y n i) X i 0 (nth Y i) n) 0 (n+i):=fun v=>
   seg_congr _ fun j hj=>by rw[Nat.zero_add,nth_set_ne (by omega)]
  rw[val_take_succ (by omega),Nat.mul_add,←h1]
  show seg (pR Z X Y n (i+1)) 0 (n+i)+W^(n+i)*nth (pR Z X Y n (i+1)) (0+(n+i))=_
  simp only[pR]
  rw[e1,Nat.zero_add,nth_set_same (by rw[mulL_length,hl];omega),Nat.add_comm n i,seg_add,seg_add]
  have e2:seg (mulL (pR Z X Y n i) X i 0 (nth Y i) n) 0 i=seg (pR Z X Y n i) 0 i:=seg_congr _ fun j hj=>by rw[Nat.zero_add,mulL_below _ _ _ _ _ _ (by omega)]
  rw[e2,Nat.zero_add,Nat.pow_add]
  generalize W^i=a at *
  generalize W^n=b at *
  generalize mulC (pR Z X Y n i) X i 0 (nth Y i) n=cc at *
  generalize seg (mulL (pR Z X Y n i) X i 0 (nth Y i) n) i n=s1 at *
  generalize seg (pR Z X Y n i) i n=s2 at *
  generalize seg (pR Z X Y n i) 0 i=s3 at *
  have h3:a*(s1+b*cc)=a*(s2+nth Y i*val X):=by rw[h2]
  simp only[Nat.mul_add,←Nat.mul_assoc]at h3 ⊢
  have e4:val X*a*nth Y i=a*nth Y i*val X:=by rw[Nat.mul_comm (val X),Nat.mul_assoc,Nat.mul_comm (val X),Nat.mul_assoc]
  omega
theorem seg_zero0(Z:List Nat)(n:Nat)(h:∀t,nth Z t=0):seg Z 0 n=0:=by
 induction n with
 |zero=>rfl
 |succ n ih=>simp[seg,ih,h]
theorem ModIs.keepE{w w':World}{S:List Nat}{n m y q:Nat}{M Q:List Nat}(h:ModIs w n m y q M Q)(he:val M%2=0)(hm:Mod S w w')(h1:m∉S)(h2:y∉S)(h3:q∉S):ModIs w' n m y q M Q:=
 ⟨h.nat.mod hm h2 h3,h.words,h.top,h.big,h.room,fun he=>(h.even he).mod hm h1,fun ho=>absurd ho (by omega),h.new⟩
set_option maxRecDepth 100000 in
theorem c_ModG(w:World)(n m y q o po x px:Nat)(M Q Lo Ro L R:List Nat)(hM:ModIs w n m y q M Q)(he:val M%2=0)(hO:NatIs w o po Lo Ro)(hx:NatIs w x px L R)(wL:Words L)(dyo:y≠o)(dqo:q≠po)(dx:x≠o)(dp:px≠po) :
 Calls Tryz.prog 90 #[ptr o,ptr x,ptr m] w fun e w'=>∃p' X R',e=.returned (ptr o)∧Mod [o,po] w w'∧NatIs w' o p' X R'∧Kept w po p'∧Below' X M∧val X=val L%val M:=by
 obtain⟨N,hN⟩:∃N,N=M.length:=⟨_,rfl⟩
 have hNp:0<N:=by rw[hN];exact len_pos hM.big
 obtain⟨K,hK⟩:∃K,K=min (N-1) L.length:=⟨_,rfl⟩
 obtain⟨D,hD⟩:∃D,D=L.length-K:=⟨_,rfl⟩
 have hMw:=hM
 have HE0:=hide he
 clear he
 obtain⟨oo,kk,rr,hh⟩:=hMw.head
 have hy:=hMw.nat
 have hx0:=hx.xlt
 have hx1:=hx.plt
 have hcapx:=hx.cap
 have hroom:=hM.room
 rw[←hN]at hroom
 have HTOP:Hid (nth M (N-1)≠0):=hide (by rw[hN];exact hM.top (by have:=len_pos hM.big;omega))
 have HN:=hide hN
 have HK:=hide hK
 have HD:=hide hD
 have kN:K≤N:=by omega
 have kL:K≤L.length:=by omega
 have kD:D+K=L.length:=by omega
 have eK:Hid ((if (L.length:Int)-1<(N:Int)-2 then (L.length:Int)-1 else (N:Int)-2)=(K:Int)-1):=hide (by split<;>omega)
 clear hN hK hD
 go_enter Tryz.func90,Tryz.ntmps90
 go_wp2_with fail
 refine(c_resetFor o po m y q kk oo rr Lo Ro M Q w hO hh hy).mono ?_
 rintro e w1 ⟨p1,R1,rfl,m1,h1,k1⟩
 rw[←HN.out]at h1
 have dp1:px≠p1:=k1.ne hx1 dp
 have hM1:=hM.keepE HE0.out m1 (by simp;exact⟨hh.ne hO.head (by decide),hh.ne hO.row (by decide)⟩) (by simp;exact⟨dyo,hy.head.ne hO.row (by decide)⟩) (by simp;exact⟨hy.row.ne hO.head (by decide),dqo⟩)
 have dq1:q≠p1:=k1.ne hy.plt dqo
 obtain⟨o1,k1',r1,hh1⟩:=hM1.head
 have hc0:=hh1.c0
 have hcy:=hM1.nat.cell
 rw[←HN.out]at hcy
 have hx2:NatIs w1 x px L R:=hx.mod m1 (by simp;exact⟨dx,hx.head.ne hO.row (by decide)⟩) (by simp;exact⟨hx.row.ne hO.head (by decide),dp⟩)
 have hcx:=hx2.cell
 have hco:=h1.cell
 rw[List.length_replicate]at hco
 have hcap1:=h1.cap
 rw[List.length_replicate]at hcap1
 have hop:=h1.ne
 have dxp:x≠p1:=hx2.head.ne h1.row (by decide)
 have HMR:=hide (ModRow.start L N K)
 have HR0:=hide h1.row
 have dmp1:m≠p1:=hh1.ne h1.row (by decide)
 have dyp1:y≠p1:=hM1.nat.head.ne h1.row (by decide)
 clear hMw hh hy
 go_upto_if 30 with fail
 go_cut [8] (fun jv wx=>jv=.int .i64 ((K:Int)-1)∧wx=w1)
 case first=>
  by_cases hlt:(L.length:Int)-1<(N:Int)-2
  ·have eK2:=eK.out
   rw[if_pos hlt]at eK2
   have EK2:=hide eK2
   clear eK2
   go_wp2_with fail
   go_meet
   exact⟨by rw[EK2.out],rfl⟩
  ·have eK2:=eK.out
   rw[if_neg hlt]at eK2
   have EK2:=hide eK2
   clear eK2
   go_wp2_with fail
   go_meet
   exact⟨by rw[EK2.out],rfl⟩
 case rest=>
  obtain⟨rfl,rfl⟩:=hcut
  go_wp2_with fail
  go_loopw [7,9] (fun iv jv wr=>∃(j:Nat) (O:List Nat),jv=.int .i64 ((j:Int)-1)∧iv=.int .i64 (((D+j:Nat):Int)-1)∧j≤K∧Mod [p1] wc wr∧Blk wr p1 51 ((O++R1).map wordV)∧Hid (ModRow L O N K j)) (fun _ jv _=>(intOf jv+1).toNat)
  case atStart=>exact⟨K,_,rfl,by rw[kD],by omega,Mod.refl _ _,HR0.out,HMR⟩
  case round=>
   clear HR0 HMR
   obtain⟨j,O,rfl,rfl,hj,hmr,hO',hMR⟩:=hrel
   have hxr:NatIs wr x px L R:=hx2.mod hmr (by simp;exact dxp) (by simp;exact dp1)
   have hcxr:=hxr.cell
   have hcor:wr.cell? ⟨o,0,none⟩=some (sl p1 0 N (N+R1.length)):=by rw[←hco];exact World.cell?_of_block (hmr.block o h1.xlt (by simp;exact hop))
   cases j with
   |succ j=>
    obtain⟨dj,hdj⟩:∃dj,dj=D+j:=⟨_,rfl⟩
    have e1:Hid (((j+1:Nat):Int)-1=(j:Int)):=hide (by omega)
    have e2:Hid (((D+(j+1):Nat):Int)-1=(dj:Int)):=hide (by omega)
    rw[e1.out,e2.out]
    have hlen:=hMR.out.len
    have hcp:=hxr.at dj (by omega)
    have hrow:=hO'.at j (by simp;omega)
    rw[nth_append_left (by omega)]at hrow
    have hfz:=hO'.frozen j
    have g1:(dj:Int)<(L.length:Int):=by omega
    have g2:(j:Int)<(N:Int):=by omega
    have hMR2:=hide (hMR.out.next wL (by omega) kN)
    rw[HD.out.symm,←hdj]at hMR2
    have hO2:Blk ((wr.setCell ⟨p1,j,none⟩ (wordV (nth L dj)))).drew p1 51 ((O.set j (nth L dj)++R1).map wordV):=row_set hO' (by omega)
    have hm2:Mod [p1] wc (wr.setCell ⟨p1,j,none⟩ (wordV (nth L dj))).drew:=(hmr.setCell _ _ (by simp)).drew
    have e3:Hid ((dj:Int)-1=((D+j:Nat):Int)-1):=hide (by omega)
    clear hlen hmr hO' hMR hdj hxr
    go_wp2_with fail
    go_region_with (fail)
    all_goals
     go_wp2_with fail
     go_roundw
     case rel=>exact⟨j,_,by go_num,by rw[←e3.out],by omega,hm2,hO2,hMR2⟩
     case measure=>first|(simp[intOf];done)|(simp[intOf];omega)
   |zero=>
    have hKN:K+1≤N∨K=0:=by have:=HK.out;omega
    have hdone:=hMR.out.done wL kL hKN HN.out.symm HTOP.out hNp
    rw[←HD.out]at hdone
    have nO:NatIs wr o p1 O R1:=h1.put (by rw[hMR.out.len];simp) (hmr.block o h1.xlt (by simp;exact hop)) hO'
    have HV:Hid (val O=val L/W^D%val M):=hide (by rw[←hdone.2,Nat.mod_eq_of_lt hdone.1.lt])
    have bO:=hdone.1
    have e0:Hid ((((0:Nat):Int))-1 = -1):=hide (by omega)
    rw[e0.out]
    have eD:D+0=D:=Nat.add_zero D
    rw[eD]
    clear hdone hMR hO' hKN eD hcor hcxr hxr
    obtain⟨wo,rfl⟩:∃wo:World,wo=wr:=⟨_,rfl⟩
    go_wp2_with fail
    go_loopw [7] (fun iv wr=>∃(i:Nat) (X:List Nat),iv=.int .i64 ((i:Int)-1)∧i≤D∧Mod [p1] wc wr∧NatIs wr o p1 X R1∧Below' X M∧Hid (val X=val L/W^i%val M)) (fun iv _=>(intOf iv+1).toNat)
    case atStart=>exact⟨D,O,rfl,by omega,hmr,nO,bO,HV⟩
    case round=>
     clear hmr nO bO HV
     obtain⟨i,X,rfl,hi,hmr,nX,bX,hV⟩:=hrel
     cases i with
     |succ i=>
      have e1:Hid (((i+1:Nat):Int)-1=(i:Int)):=hide (by omega)
      rw[e1.out]
      have hxr:NatIs wr x px L R:=hx2.mod hmr (by simp;exact dxp) (by simp;exact dp1)
      have hcxr:=hxr.cell
      have hcp:=hxr.at i (by omega)
      have g1:(i:Int)<(L.length:Int):=by omega
      have C:=hide (c_shiftInG wr n m y q o p1 (nth L i) M Q X R1 (hM1.keepE HE0.out hmr (by simp;exact dmp1) (by simp;exact dyp1) (by simp;exact dq1)) nX bX dq1 (wL.nth i))
      have HVN:Hid (∀v,v=(val X*W+nth L i)%val M→v=val L/W^i%val M):=hide (fun v hv=>by
       rw[hv,hV.out,val_shr_step wL (show i<L.length by omega),Nat.add_mod,Nat.mod_mul_mod,←Nat.add_mod])
      clear hxr
      go_wp2_with fail
      refine C.out.mono ?_
      rintro e w3 ⟨X',rfl,m3,n3,b3,e3⟩
      have HE:=hide (HVN.out _ e3)
      have hm3:Mod [p1] wc w3:=Mod.trans (U:=[p1]) hmr m3 (fun a ha _=>ha) (fun a ha _=>ha)
      clear e3
      go_wp2_with fail
      go_roundw
      case rel=>exact⟨i,X',by go_num,by omega,hm3,n3,b3,HE⟩
      case measure=>first|(simp[intOf];done)|(simp[intOf];omega)
     |zero=>
      have hfin:Mod [o,po] w wr:=Mod.trans (U:=[o,po]) m1 hmr (fun a ha _=>ha) (fun a ha hlt=>by
       simp at ha
       rcases k1 with hk|hk
       ·rw[ha,hk];simp
       ·omega)
      have hVF:=hV.out
      rw[Nat.pow_zero,Nat.div_one]at hVF
      have HVF:=hide hVF
      clear hVF
      go_wp2_with fail
      go_ret
      exact⟨p1,X,R1,rfl,hfin,nX,k1,bX,HVF.out⟩
set_option maxRecDepth 4000000 in
theorem c_MulEvenG(w:World)(n m y q x p z pz:Nat)(M Q L R V S:List Nat)(hM:ModIs w n m y q M Q)(ho:val M%2=0)(hl15:M.length≤15)(hx:NatIs w x p L R)(hz:NatIs w z pz V S)(bL:Below' L M)(wV:Words V)(lV:V.length=M.length)
 (dyx:y≠x) (dqp:q≠p) :
 Calls Tryz.prog 92 #[ptr x,ptr z,ptr m] w fun e w'=>
  ∃p' X R',e=.returned (ptr x)∧Mod [x,p] w w'∧NatIs w' x p' X R'∧Kept w p p'∧Below' X M∧val X=(val L*val V)%val M:=by
 have hMw:=hM
 have hh:=hMw.even ho
 have hc1:=hh.c1
 have hc0:=hh.c0
 have hcy:=hMw.nat.cell
 have hcx:=hx.cell
 have hcz:=hz.cell
 have hx0:=hx.xlt
 have hp0:=hx.plt
 have hz0:=hz.xlt
 have hz1:=hz.plt
 have hcapx:=hx.cap
 have hcapz:=hz.cap
 have hcapy:=hMw.nat.cap
 obtain⟨N,hN⟩:∃N,N=M.length:=⟨_,rfl⟩
 have hNp:0<N:=by rw[hN];exact len_pos hM.big
 have lL:=bL.len
 rw[←hN]at hl15 lV lL hcy hcapy
 rw[lV]at hcz hcapz
 rw[lL]at hcx hcapx
 have wL:=bL.words
 have HLV:=hide lV
 have HLL:=hide lL
 have HN:=hide hN
 have HO:=hide ho
 have g16:((N:Int) == 16)=false:=by simp;omega
 have g24:((N:Int) == 24)=false:=by simp;omega
 have g32:((N:Int) == 32)=false:=by simp;omega
 have hmk1:∀w,(Instr.makeSlice 50 (.int .i64 0) (.int .i64 64)).run Tryz.prog w=.ok (sl w.heap.size 0 0 64) (w.alloc (.cells ((zrow 64).map u64).toArray 51)):=make_uint 0 64 (by omega) (by omega)
 generalize hr1:((zrow 64).map u64).toArray=row1 at hmk1
 have HR1:=hide hr1
 clear hr1 lV lL hN ho
 have hdec:decide ((64:Int)<(N:Int)*2)=false:=by simp;omega
 have hT:Blk (w.alloc (.cells row1 51)) w.heap.size 51 ((zrow 64).map u64):=by
  rw[←HR1.out]
  exact Blk.new w _ _
 have hM0:Mod [] w (w.alloc (.cells row1 51)):=(Mod.refl [] w).alloc _
 go_enter Tryz.func92,Tryz.ntmps92
 go_wp2_with fail
 go_loopw [12] (fun i wr=>∃j:Nat,j≤N∧i=i64 j∧Mod [] w wr∧Blk wr w.heap.size 51 ((pR (zrow 64) L V N j).map u64)) (fun i _=>N-(intOf i).toNat)
 case atStart=>exact⟨0,Nat.zero_le _,rfl,hM0,hT⟩
 case round=>
  obtain⟨j,hj,rfl,hmod,hTj⟩:=hrel
  have hxr:=hx.mod hmod (by simp) (by simp)
  have hzr:=hz.mod hmod (by simp) (by simp)
  have zl:(pR (zrow 64) L V N j).length=64:=by rw[pR_len,zrow_length]
  by_cases hlt:j<N
  ·have hb1:wr.cell? ⟨pz,j,none⟩=some (u64 (nth V j)):=hzr.at j (by rw[HLV.out];exact hlt)
   have C:=hide (fun (wd:World) (hd:Mod [] wr wd)=>c_addMul w.heap.size j (64-j) x p (N+R.length) (nth V j) (pR (zrow 64) L V N j) L R wd (Blk.mod hTj hd (by simp)) (hxr.mod hd (by simp) (by simp)) (by omega) (by rw[HLL.out];exact hNp) (by rw[zl,HLL.out];omega) (pR_words (zrow_words _) _ _) wL (wV.nth j) (by rw[zl];omega))
   have C1:=C.out
   rw[HLL.out]at C1
   have C2:=hide C1
   clear C C1
   have hs1:IntKind.i64.wrap ((N:Int)+(j:Int))=((N+j:Nat):Int):=IntWalk.i64_in _ (by omega)
   clear hb1
   have hb1:wr.cell? ⟨pz,j,none⟩=some (u64 (nth V j)):=hzr.at j (by rw[HLV.out];exact hlt)
   have hcj:(j:Int)<(N:Int):=by omega
   clear zl
   go_wp2_with fail
   have HPW:Hid (Words (pR (zrow 64) L V N j)):=hide (pR_words (zrow_words _) _ _)
   have HZL:Hid ((pR (zrow 64) L V N j).length=64):=hide (by rw[pR_len,zrow_length])
   have HNX:Hid ((mulL (pR (zrow 64) L V N j) L j 0 (nth V j) N).set (N+j) (mulC (pR (zrow 64) L V N j) L j 0 (nth V j) N)=pR (zrow 64) L V N (j+1)):=hide rfl
   go_region_with ((go_at_call 126;refine(C2.out _ (Mod.refl _ _).drew).mono ?_;rintro e w1 ⟨rfl,m1,hT1⟩;have hf3:=hT1.frozen (N+j);have ht3:w1.cell? ⟨w.heap.size,N+j,none⟩=some (u64 (nth (mulL (pR (zrow 64) L V N j) L j 0 (nth V j) N) (N+j))):=hT1.at (N+j) (by rw[mulL_length,HZL.out];omega)))
   all_goals
    have m2:Mod [] w (w1.setCell ⟨w.heap.size,N+j,none⟩ (u64 (mulC (pR (zrow 64) L V N j) L j 0 (nth V j) N))):=
     (Mod.trans (U:=[]) hmod m1.ofDrew (by simp) (by simp<;>omega)).setCell _ _ (by simp)
    have hT2:Blk (w1.setCell ⟨w.heap.size,N+j,none⟩ (u64 (mulC (pR (zrow 64) L V N j) L j 0 (nth V j) N))) w.heap.size 51 ((pR (zrow 64) L V N (j+1)).map u64):=by rw[←HNX.out];exact hT1.set _ _
    clear hmod m1 hTj hT1 ht3 hf3 C2
    go_wp2_with fail
    go_roundw
    case rel=>exact⟨j+1,by omega,by go_num,m2,hT2⟩
    case measure=>simp[intOf];omega
  ·obtain rfl:N=j:=by omega
   obtain⟨T,hT⟩:∃T,T=pR (zrow 64) L V N N:=⟨_,rfl⟩
   have hTv:val (T.take (2*N))=val L*val V:=by
    have h:=pR_val (Z:=zrow 64) (X:=L) (Y:=V) (n:=N) (zrow_words _) wL wV HLL.out HLV.out (seg_zero0 _ _ (fun t=>nth_replicate0 _ _)) (by rw[zrow_length];omega) N (Nat.le_refl _)
    rw[←hT,seg_whole _ _ (by rw[hT,pR_len,zrow_length];omega),List.take_of_length_le (l:=V) (by rw[HLV.out];omega),←Nat.two_mul]at h
    exact h
   have hTw:Words T:=by rw[hT];exact pR_words (zrow_words _) _ _
   rw[←hT]at hTj zl
   have HTV:=hide hTv
   have hcj:¬(N:Int)<(N:Int):=by omega
   clear hTv hT
   have hTR:Blk wr w.heap.size 51 ((T.take (2*N)++T.drop (2*N)).map u64):=by rw[List.take_append_drop];exact hTj
   have l1:(T.take (2*N)).length=N*2:=by rw[List.length_take,zl];omega
   have l2:(T.drop (2*N)).length=64-N*2:=by rw[List.length_drop,zl];omega
   have hTW:Words (T.take (2*N)):=hTw.take _
   obtain⟨wb,hwb⟩:∃wb,wb=wr.alloc (.cells #[sl w.heap.size 0 (N*2) 64] 180):=⟨_,rfl⟩
   have hnb:NatIs wb wr.heap.size w.heap.size (T.take (2*N)) (T.drop (2*N)):=by
    refine⟨?_,by rw[hwb];exact hTR.alloc _,by rw[l1,l2];omega⟩
    rw[l1,l2,hwb,show N*2+(64-N*2)=64 by omega]
    exact Blk.new wr _ _
   have hmb:Mod [] w wb:=by rw[hwb];exact hmod.alloc _
   have hsr:=hmod.size
   have C:=hide (c_ModG wb n m y q x p wr.heap.size w.heap.size M Q L R (T.take (2*N)) (T.drop (2*N)) (hM.mod hmb) HO.out (hx.mod hmb (by simp) (by simp)) hnb hTW dyx dqp (by omega) (by omega))
   rw[HTV.out]at C
   clear hTR l1 l2 hTW hnb hTw hTj zl
   go_wp2_with fail
   rw[←hwb]
   refine C.out.mono ?_
   rintro e w2 ⟨p',X,R',rfl,m2,h2,k2,b2,e2⟩
   have m12:Mod [x,p] w w2:=Mod.trans (U:=[x,p]) hmb m2 (by simp) (fun a ha _=>ha)
   have k2':Kept w p p':=by
    have:=hmb.size
    rcases k2 with h|h
    ·exact .inl h
    ·exact .inr (by omega)
   have E2:=hide e2
   clear e2
   go_wp2_with fail
   go_ret
   exact⟨p',X,R',rfl,m12,h2,k2',b2,E2.out⟩
end Go.Proofs.YtfgmnbmnpihjdaaGreatDoor
