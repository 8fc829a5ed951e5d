/- Lemmas of mine for the walk and its plain laws: ExpS Box3 Priv Enc OaepM -/
import Derived.Test.YtfgmnbmnpihjdaaGreatDoorM35
import Derived.Deep.RegionHeld3
import Derived.Test.YtfgmnbmnpihjdaaGreatDoorM15
import Derived.Deep.DeepCutAuto
import Derived.Test.YtfgmnbmnpihjdaaGreatDoorM32
set_option linter.all false
set_option exponentiation.threshold 7000000
set_option maxHeartbeats 4000000
namespace Go.Proofs.YtfgmnbmnpihjdaaGreatDoor
open Go.RowKit
theorem exp_bits(e t:Nat):e/2^t=2*(e/2^(t+1))+e/2^t%2:=by
 rw[Nat.pow_succ,←Nat.div_div_eq_div_mul];omega
theorem mont_sq{c f M w X Y:Nat}(hc:Nat.Coprime w M)(hX:X<M)(hM:0<M)(hY:Y=c^f*w%M)(h:X*w%M=Y*Y%M):X=c^(2*f)*w%M:=by
 refine mod_cancel_lt hc hX (Nat.mod_lt _ hM) ?_
 rw[h,hY,←Nat.mul_mod,Nat.mod_mul_mod,show 2*f=f+f by omega,Nat.pow_add]
 congr 1
 simp only[Nat.mul_assoc,Nat.mul_comm,Nat.mul_left_comm]
theorem mont_mul{c f M w X Y Z:Nat}(hc:Nat.Coprime w M)(hX:X<M)(hM:0<M)(hY:Y=c^f*w%M)(hZ:Z=c*w%M)(h:X*w%M=Y*Z%M):X=c^(f+1)*w%M:=by
 refine mod_cancel_lt hc hX (Nat.mod_lt _ hM) ?_
 rw[h,hY,hZ,←Nat.mul_mod,Nat.mod_mul_mod,Nat.pow_succ]
 congr 1
 simp only[Nat.mul_assoc,Nat.mul_comm,Nat.mul_left_comm]
set_option maxRecDepth 100000 in
theorem c_ExpShort(w0 w:World)(n m y q o po x px en:Nat)(M Q Lo Ro L R:List Nat)(h0:Mod [] w0 w)(hM:ModIs w0 n m y q M Q)(ho:val M%2=1)
 (hO:NatIs w o po Lo Ro) (hx:NatIs w x px L R) (bL:Below' L M) (go:w0.heap.size≤o) (gpo:w0.heap.size≤po) (he1:1≤en) (he2:en<2147483648) :
 Calls Tryz.prog 86 #[ptr o,ptr x,u64 en,ptr m] w fun e w'=>
  ∃p' X R',e=.returned (ptr o)∧Mod [o,po] w w'∧NatIs w' o p' X R'∧Kept w po p'∧w0.heap.size≤p'∧Below' X M∧val X=(val L^en)%val M:=by
 obtain⟨k,rr,qr,XR,S',hh,-,-,-,-,-,-⟩:=(hM.mod h0).odd ho
 have hc1:=hh.c1
 have hs0:=h0.size
 have hO0:=hO.xlt
 have hO1:=hO.plt
 have hx0:=hx.xlt
 have hx1:=hx.plt
 have hcop:=hide (cop_W ho M.length)
 have hbig:=hM.big
 have HO:=hide ho
 obtain⟨c,hc⟩:∃c,c=val L:=⟨_,rfl⟩
 have HC:=hide hc
 rw[←hc]
 clear ho hc
 go_enter Tryz.func86,Tryz.ntmps86
 go_wp2_with fail
 refine(c_NewNat _).mono ?_
 rintro e w1 ⟨a,b,rfl,m1,hn1,g1,g2⟩
 go_wp2_with fail
 refine(c_set' a b x px [] _ L R w1 hn1 (hx.mod m1 (by simp) (by simp)) (by omega) (by omega)).mono ?_
 rintro e w2 ⟨p2,R2,rfl,m2,hn2,k2⟩
 have s1:=m1.size
 have gp2:w.heap.size≤p2:=k2.ge g2 s1
 have m02:Mod [] w w2:=Mod.trans (U:=[]) m1 m2 (by simp) (by simp;omega)
 go_wp2_with fail
 refine(c_montRep w0 w2 n m y q a p2 M Q L R2 (h0.then m02) hM HO.out hn2 bL (by omega) (by omega)).mono ?_
 rintro e w3 ⟨p3,X3,R3,rfl,m3,hn3,k3,g3,b3,e3⟩
 have s2:=m02.size
 have gp3:w.heap.size≤p3:=k3.ge gp2 s2
 have m03:Mod [] w w3:=Mod.trans (U:=[]) m02 m3 (by simp) (by simp;omega)
 have hO3:=hO.mod m03 (by simp) (by simp)
 rw[←HC.out]at e3
 have E3:=hide e3
 clear e3 hn1 hn2 m1 m2 m3 k2 k3 m02
 go_wp2_with fail
 refine(c_set' o po a p3 Lo Ro X3 R3 w3 hO3 hn3 (by omega) (by omega)).mono ?_
 rintro e w4 ⟨p4,R4,rfl,m4,hn4,k4⟩
 have m04:Mod [o,po] w w4:=Mod.trans (U:=[o,po]) m03 m4 (by simp) (fun z hz _=>hz)
 have hO4:=hn4
 obtain⟨T,hT⟩:∃T,T=blen en:=⟨_,rfl⟩
 have hT1:1≤T:=by rw[hT];exact blen_pos (by omega)
 have hT2:T≤31:=by rw[hT];exact blen_le (by omega)
 have CL:=hide (fun w'=>c_bitsLen en he2 w')
 rw[←hT]at CL
 have hlow:en/2^(T-1)=1:=by
  have h1:=two_blen_le (n:=en) (by omega)
  have h2:=lt_two_blen en
  rw[←hT]at h1 h2
  rw[show T=(T-1)+1 by omega,Nat.pow_succ]at h2
  exact Nat.div_eq_of_lt_le (by omega) (by omega)
 have E4:Hid (val X3=c^(en/2^(T-1))*W^M.length%val M):=hide (by rw[hlow,Nat.pow_one];exact E3.out)
 have HT:=hide hT
 have hs4:=m03.size
 have sb3:a<w3.heap.size:=hn3.xlt
 have sp3:p3<w3.heap.size:=hn3.plt
 have ga:w.heap.size≤a:=g1
 have Hx:=hide (fun w' (mm:Mod [o,po] w3 w')=>hn3.mod mm (by simp;omega) (by simp;omega))
 have m34:Mod [o,po] w3 w4:=m4
 have k04:Kept w po p4:=by
  rcases k4 with h|h
  ·exact .inl h
  ·exact .inr (by omega)
 have gp4:w0.heap.size≤p4:=k04.ge gpo hs0
 have el:(64:Int)-(T:Int)=((64-T:Nat):Int):=by omega
 have el2:((64-T:Nat):Int)+1=((65-T:Nat):Int):=by omega
 have el3:IntKind.i64.wrap ((65-T:Nat):Int)=((65-T:Nat):Int):=by rw[IntKind.wrap_i64];omega
 have el4:IntKind.i64.wrap ((64-T:Nat):Int)=((64-T:Nat):Int):=by rw[IntKind.wrap_i64];omega
 clear hT hlow hn4 hO hO3 he1 hs4
 go_wp2_with fail
 refine(CL.out _).mono ?_
 rintro e w4' ⟨rfl,rfl⟩
 go_wp2_with fail
 go_loopw [10] (fun iv wr=>∃(i p':Nat) (X R':List Nat),iv=i64 i∧65-T≤i∧i≤64∧Mod [o,po] w wr∧NatIs wr o p' X R'∧Kept w3 po p'∧w0.heap.size≤p'∧Below' X M∧Mod [o,po] w3 wr∧Hid (val X=c^(en/2^(64-i))*W^M.length%val M)) (fun iv _=>64-(intOf iv).toNat)
 case atStart=>exact⟨65-T,p4,X3,R4,rfl,by omega,by omega,m04,hO4,k4,gp4,b3,m34,by rw[show 64-(65-T)=T-1 by omega];exact E4⟩
 case round=>
  obtain⟨i,p5,X5,R5,rfl,hi1,hi2,m5,h5,k5,g5,b5,m35,E5⟩:=hrel
  by_cases h64:i<64
  ·have g:(i:Int)<64:=by omega
   have ei:IntKind.i64.wrap ((i:Int)+1)=((i+1:Nat):Int):=by rw[IntKind.wrap_i64];omega
   obtain⟨t,ht⟩:∃t,t=63-i:=⟨_,rfl⟩
   have e1:(64:Int)-(i:Int)=((64-i:Nat):Int):=by omega
   have e2:((64-i:Nat):Int)-1=(t:Int):=by omega
   have e3:IntKind.i64.wrap (t:Int)=(t:Int):=IntWalk.i64_in _ (by omega)
   have e4:IntKind.i64.wrap ((64-i:Nat):Int)=((64-i:Nat):Int):=by rw[IntKind.wrap_i64];omega
   have ht64:t<64:=by omega
   have hs5:=m5.size
   have C1:=hide (c_montB w0 wr n m y q o p5 o p5 o p5 M Q X5 R5 X5 R5 X5 R5 (h0.keep2 m5 go gpo) hM HO.out h5 h5 h5 b5 b5.len b5.words go g5)
   have HT2:=hide ht
   have HHI:=hide (And.intro hi1 hi2)
   clear ht
   go_wp2_with fail
   refine C1.out.mono ?_
   rintro e w6 ⟨p6,X6,R6,rfl,m6,h6,k6,g6,b6,e6⟩
   have E6:Hid (val X6=c^(2*(en/2^(64-i)))*W^M.length%val M):=hide (mont_sq hcop.out b6.lt (by omega) E5.out e6)
   have s35:=m35.size
   have hs3:=m03.size
   have m36:Mod [o,po] w3 w6:=m35.trans m6 (fun _ h _=>h) (fun z hz hl=>by
    simp at hz
    rcases hz with rfl|rfl
    ·simp
    ·rcases k5 with h|h
     ·simp[h]
     ·omega)
   have m06:Mod [o,po] w w6:=Mod.trans (U:=[o,po]) m03 m36 (by simp) (fun z hz _=>hz)
   have k06:Kept w3 po p6:=by
    rcases k6 with h|h
    ·rw[h];exact k5
    ·exact .inr (by omega)
   by_cases hb:en/2^(63-i)%2=1
   ·have hbit:bits .and .u64 ((en:Int)/2^t) 1=1:=by
     have h:=and_one_word (n:=en/2^t) (by have:=Nat.div_le_self en (2^t);rw[W_eq];omega)
     rw[←HT2.out]at hb
     rw[hb]at h
     exact_mod_cast h
    have hx6:=Hx.out w6 m36
    have C2:=hide (c_montB w0 w6 n m y q o p6 o p6 a p3 M Q X6 R6 X6 R6 X3 R3 (h0.keep2 m06 go gpo) hM HO.out h6 h6 hx6 b6 b3.len b3.words go g6)
    have HB:=hide hb
    clear hb
    go_wp2_with fail
    refine C2.out.mono ?_
    rintro e w7 ⟨p7,X7,R7,rfl,m7,h7,k7,g7,b7,e7⟩
    have E7:Hid (val X7=c^(en/2^(64-(i+1)))*W^M.length%val M):=hide (by
     have:=mont_mul hcop.out b7.lt (by omega) E6.out E3.out e7
     rw[this,show 64-(i+1)=63-i by have:=HHI.out;omega,exp_bits en (63-i),HB.out,show 63-i+1=64-i by have:=HHI.out;omega])
    have m37:Mod [o,po] w3 w7:=m36.trans m7 (fun _ h _=>h) (fun z hz hl=>by
     simp at hz
     rcases hz with rfl|rfl
     ·simp
     ·rcases k06 with h|h
      ·simp[h]
      ·omega)
    have m07:Mod [o,po] w w7:=Mod.trans (U:=[o,po]) m03 m37 (by simp) (fun z hz _=>hz)
    have s36:=m36.size
    have k07:Kept w3 po p7:=by
     rcases k7 with h|h
     ·rw[h];exact k06
     ·exact .inr (by omega)
    clear C2 hbit hx6 e7
    go_wp2_with fail
    go_roundw
    case rel=>exact⟨i+1,p7,X7,R7,by first|rfl|(simp[i64];done),by have:=HHI.out;omega,by omega,m07,h7,k07,g7,b7,m37,E7⟩
    case measure=>simp[intOf];omega
   ·have hbit:bits .and .u64 ((en:Int)/2^t) 1=0:=by
     have h:=and_one_word (n:=en/2^t) (by have:=Nat.div_le_self en (2^t);rw[W_eq];omega)
     rw[←HT2.out]at hb
     rw[show en/2^t%2=0 by omega]at h
     exact_mod_cast h
    have E7:Hid (val X6=c^(en/2^(64-(i+1)))*W^M.length%val M):=hide (by
     have h2:=HHI.out
     rw[show 64-(i+1)=63-i by omega,exp_bits en (63-i),show en/2^(63-i)%2=0 by omega,show 63-i+1=64-i by omega,Nat.add_zero]
     exact E6.out)
    clear hb
    go_wp2_with fail
    go_roundw
    case rel=>exact⟨i+1,p6,X6,R6,by first|rfl|(simp[i64];done),by have:=HHI.out;omega,by omega,m06,h6,k06,g6,b6,m36,E7⟩
    case measure=>simp[intOf];omega
  ·obtain rfl:i=64:=by omega
   have g:¬((64:Nat):Int)<64:=by omega
   have hs3:=m03.size
   have s35:=m35.size
   have CR:=hide (c_montRed w0 wr n m y q o p5 M Q X5 R5 (h0.keep2 m5 go gpo) hM HO.out h5 b5 go g5)
   have hs5:=m5.size
   clear hi1 hi2
   go_wp2_with fail
   refine CR.out.mono ?_
   rintro e w6 ⟨p6,X6,R6,rfl,m6,h6,k6,g6,b6,e6⟩
   have hfin:Hid (val X6=c^en%val M):=hide (by
    refine mod_cancel_lt hcop.out b6.lt (Nat.mod_lt _ (by omega)) ?_
    rw[e6,Nat.mod_mul_mod]
    have:=E5.out
    rw[Nat.sub_self,Nat.pow_zero,Nat.div_one]at this
    exact this)
   have m36:Mod [o,po] w3 w6:=m35.trans m6 (fun _ h _=>h) (fun z hz hl=>by
    simp at hz
    rcases hz with rfl|rfl
    ·simp
    ·rcases k5 with h|h
     ·simp[h]
     ·omega)
   have m06:Mod [o,po] w w6:=Mod.trans (U:=[o,po]) m03 m36 (by simp) (fun z hz _=>hz)
   have k06:Kept w po p6:=by
    rcases k6 with h|h
    ·rcases k5 with h'|h'
     ·exact .inl (by omega)
     ·exact .inr (by omega)
    ·exact .inr (by omega)
   clear e6 CR
   go_wp2_with fail
   go_ret
   exact⟨p6,X6,R6,rfl,m06,h6,k06,g6,b6,hfin.out⟩
theorem over_lt{V M:List Nat}(hV:Words V)(hM:Words M)(hl:V.length=M.length)(hp:0<M.length)(ht:nth M (M.length-1)≠0)(hb:blen (nth V (M.length-1))≤blen (nth M (M.length-1))):val V<2*val M:=by
 obtain⟨n,hn⟩:∃n,n=M.length-1:=⟨_,rfl⟩
 rw[←hn]at ht hb
 have h1:=val_split V n (by omega)
 have h2:=val_split M n (by omega)
 have h3:=val_lt (hV.take n)
 rw[List.length_take,Nat.min_eq_left (by omega)]at h3
 have e:∀L:List Nat,L.length=n+1→val (L.drop n)=nth L n:=by
  intro L h
  rw[List.drop_eq_getElem_cons (by omega),val_cons,nth_eq _ _ (by omega),List.drop_of_length_le (by omega)]
  simp[val]
 rw[e V (by omega)]at h1
 rw[e M (by omega)]at h2
 have h4:=lt_two_blen (nth V n)
 have h5:=two_blen_le ht
 have h6:2^blen (nth V n)≤2^blen (nth M n):=Nat.pow_le_pow_right (by omega) hb
 have h7:W^n*(nth V n+1)≤W^n*(2*nth M n):=Nat.mul_le_mul_left _ (by
  have:2^blen (nth M n)=2*2^(blen (nth M n)-1):=by
   have:=blen_pos ht
   rw[←Nat.pow_succ'];congr 1;omega
  omega)
 rw[Nat.mul_add,Nat.mul_one,Nat.mul_left_comm]at h7
 omega
set_option maxRecDepth 100000 in
theorem k_SetOver(wg w:World)(x n v m mv:Nat)(vb:Value)(B:List Nat)(h0:Mod [] wg w)(hm:MdAt wg m mv)(hx:NumAt w wg.heap.size x n v)(hb:GotB w vb B)(ha:ApartN w vb x)(hn:0<B.length)(hl:B.length≤100000) :
 Calls Tryz.prog 143 #[ptr x,vb,ptr m] w fun e w'=>
  (e=.returned (.tuple #[ptr x,.nilIface])∧Mod [] wg w'∧NumAt w' wg.heap.size x (wlen mv) (bval B%mv)) ∨
  (∃er,e=.returned (.tuple #[.pointer none,.iface 173 (ptr er)])∧Mod [] wg w'):=by
 have hw:=hm.pos
 obtain⟨k,y,q,M,Q,hM,hv⟩:=hm
 have hwl:M.length=wlen mv:=by rw[←hv];exact hM.wlen
 obtain⟨p,L,R,hx,g1,g2,hL,wL,hv2⟩:=hx
 clear hL hv2
 have hMw:=hM.mod h0
 obtain⟨o,kk,r,hh⟩:=hMw.head
 have ap:=ha _ _ _ hx
 have hs0:=h0.size
 obtain⟨N,hN⟩:∃N,N=wlen mv:=⟨_,rfl⟩
 rw[←hN]at hw hwl
 have HML:=hide hwl
 have HNW:=hide hN
 have HV:=hide hv
 have hc0:=hh.c0
 have hbs:=hb.1.isSlice
 clear hwl hv hN
 obtain⟨ab,cb,rfl⟩:=hbs
 go_enter Tryz.func143,Tryz.ntmps143
 go_wp2_with fail
 refine(c_resetFor x p m y q kk o r L R M Q w hx hh hMw.nat).mono ?_
 rintro e w1 ⟨p1,R1,rfl,m1,hx1,k1⟩
 rw[HML.out]at hx1
 have h01:=h0.keep2 m1 g1 g2
 have gp1:=k1.ge g2 hs0
 have hb1:GotB w1 (.slice ab B.length cb) B:=⟨hb.1.mod m1 (by intro a ha;simp at ha;rcases ha with rfl|rfl;exact ap.1;exact ap.2),hb.2.1,fun b o n c e=>Nat.lt_of_lt_of_le (hb.2.2 b o n c e) m1.size⟩
 have ap1:Apart (.slice ab B.length cb) p1:=by
  intro b o n c e
  have h1:=hb.2.2 b o n c e
  have h2:=ap.2 b o n c e
  rcases k1 with h|h
  ·rw[h];exact h2
  ·omega
 by_cases hfit:B.length≤8*N
 ·go_wp2_with fail
  refine(c_setBytesF x p1 N _ R1 B w1 hx1 hb1.1 hb.2.1 ap1 hfit hn).mono ?_
  rintro e w2 ⟨V,rfl,m2,hx2,lV,wV,eV⟩
  have h02:=h01.keep1 m2 gp1
  have hM2:=hM.mod h02
  obtain⟨o2,kk2,r2,hh2⟩:=hM2.head
  obtain⟨T,hT⟩:∃T,T=N-1:=⟨_,rfl⟩
  have b1:=hx2.at T (by omega)
  have b2:=hx2.cell
  rw[lV]at b2
  have b3:=hM2.nat.at T (by rw[HML.out];omega)
  have b4:=hM2.nat.cell
  rw[HML.out]at b4
  have b5:=hh2.c0
  have b6:=hx2.cap
  rw[lV]at b6
  have b7:=hM2.nat.cap
  rw[HML.out]at b7
  have eN:(N:Int)-1=(T:Int):=by omega
  have eNw:IntKind.i64.wrap ((N:Int)-1)=(T:Int):=by rw[eN];exact IntWalk.i64_in _ (by omega)
  have eTw:IntKind.i64.wrap (T:Int)=(T:Int):=IntWalk.i64_in _ (by omega)
  have HT:=hide hT
  have gN:(T:Int)<(N:Int):=by omega
  have gT:T<N:=by omega
  clear hT
  have LV:=hide lV
  have EV:=hide eV
  have wv1:=wV.nth T
  have wm1:=hM.words.nth T
  have HWW:Hid (∀L,(L=V∨L=M)→nth L T<W):=hide (by rintro L (rfl|rfl);exact wv1;exact wm1)
  clear lV eV hx1 hh wv1 wm1 m1 m2 hc0
  go_wp2_with fail
  go_region_held3 (fun w'=>w'.cell? ⟨x,0,none⟩=some (sl p1 0 N (N+R1.length))∧w'.cell? ⟨p1,T,none⟩=some (u64 (nth V T))∧w'.cell? ⟨m,0,none⟩=some (ptr y)∧w'.cell? ⟨y,0,none⟩=some (sl q 0 N (N+Q.length))∧w'.cell? ⟨q,T,none⟩=some (u64 (nth M T))∧Mod [] w2 w')
   (first|exact⟨b2,b1,b5,b4,b3,(Mod.refl [] w2).drew⟩|assumption)
   ((go_at_call 136;refine(c_bitLen _ (HWW.out _ ?_) _).mono ?_;(first|exact Or.inl rfl|exact Or.inr rfl);rintro e w' ⟨rfl,rfl⟩))
  have h03:Mod [] wg w2.drew:=h02.drew
  have hx3:NatIs w2.drew x p1 V R1:=hx2.drew
  have hM3:=hM.mod h03
  obtain⟨o3,kk3,r3,hh3⟩:=hM3.head
  have HTT:=hide (hM.top (by have:=hw.1;have:=HML.out;omega))
  go_wp2_with fail
  ·refine(c_errNew _ _).mono ?_
   rintro e w4 ⟨er,rfl,m4⟩
   have h04:=h03.then m4
   go_wp2_with fail
   go_ret2
   exact .inr ⟨_,rfl,h04⟩
  ·have hov:val V<2*val M:=over_lt wV hM.words (by rw[LV.out,HML.out]) (by rw[HML.out];exact hw.1) HTT.out (by rw[HML.out,←HT.out];omega)
   have C:=hide (c_maybeSub x p1 m y q kk3 0 o3 r3 V R1 M Q w2.drew hx3 hh3 hM3.nat wV hM.words (by rw[LV.out,HML.out]) (by omega) (by rw[Nat.mul_zero,Nat.add_zero];exact hov))
   clear hov
   refine C.out.mono ?_
   rintro e w4 ⟨X,rfl,m4,hx4,bX,eX⟩
   have h04:=h03.keep1 m4 gp1
   rw[Nat.mul_zero,Nat.add_zero]at eX
   have EX:=hide eX
   clear eX
   go_wp2_with fail
   go_ret2
   exact .inl ⟨rfl,h04,p1,X,R1,hx4,g1,gp1,by rw[bX.len,HML.out,HNW.out],bX.words,by rw[EX.out,EV.out,HV.out]⟩
 ·obtain⟨b,o',c',hsl,hc,hcb⟩:∃b o' c',Value.slice ab B.length cb=sl b o' B.length c'∧B.length≤c'∧CellsB w1 b o' B:=by
   rcases hb1.1 with⟨e,hB⟩|⟨a,c,e,hB⟩|h
   ·rw[hB]at hn;simp at hn
   ·rw[hB]at hn;simp at hn
   ·exact h
  rw[hsl]
  have C:=hide (c_setBytes_over x p1 N b o' c' R1 B w1 hx1 hcb hb.2.1 hc (ap1 _ _ _ _ hsl) (by omega) (by omega))
  go_wp2_with fail
  refine C.out.mono ?_
  rintro e w2 ⟨er,rfl,m2⟩
  have h02:=h01.keep1 m2 gp1
  go_wp2_with fail
  go_ret2
  exact .inr ⟨er,rfl,h02⟩
set_option maxRecDepth 100000 in
theorem k_SetBytes_long(wg w:World)(x n v m mv:Nat)(vb:Value)(B:List Nat)(h0:Mod [] wg w)(hm:MdAt wg m mv)(hx:NumAt w wg.heap.size x n v)(hb:GotB w vb B)(ha:ApartN w vb x)(hn:8*wlen mv<B.length)(hl:B.length≤100000) :
 Calls Tryz.prog 85 #[ptr x,vb,ptr m] w fun e w'=>∃er,e=.returned (.tuple #[.pointer none,.iface 173 (ptr er)])∧Mod [] wg w':=by
 have hw:=hm.pos
 obtain⟨k,y,q,M,Q,hM,hv⟩:=hm
 have hwl:M.length=wlen mv:=by rw[←hv];exact hM.wlen
 obtain⟨p,L,R,hx,g1,g2,hL,wL,hv2⟩:=hx
 clear hL hv2 hv
 have hMw:=hM.mod h0
 obtain⟨o,kk,r,hh⟩:=hMw.head
 have ap:=ha _ _ _ hx
 have hs0:=h0.size
 obtain⟨N,hN⟩:∃N,N=wlen mv:=⟨_,rfl⟩
 rw[←hN]at hw hwl hn
 have HML:=hide hwl
 have hc0:=hh.c0
 have hbs:=hb.1.isSlice
 clear hwl hN
 obtain⟨ab,cb,rfl⟩:=hbs
 go_enter Tryz.func85,Tryz.ntmps85
 go_wp2_with fail
 refine(c_resetFor x p m y q kk o r L R M Q w hx hh hMw.nat).mono ?_
 rintro e w1 ⟨p1,R1,rfl,m1,hx1,k1⟩
 rw[HML.out]at hx1
 have h01:=h0.keep2 m1 g1 g2
 have gp1:=k1.ge g2 hs0
 have hb1:GotB w1 (.slice ab B.length cb) B:=⟨hb.1.mod m1 (by intro a ha;simp at ha;rcases ha with rfl|rfl;exact ap.1;exact ap.2),hb.2.1,fun b o n c e=>Nat.lt_of_lt_of_le (hb.2.2 b o n c e) m1.size⟩
 have ap1:Apart (.slice ab B.length cb) p1:=by
  intro b o n c e
  have h1:=hb.2.2 b o n c e
  have h2:=ap.2 b o n c e
  rcases k1 with h|h
  ·rw[h];exact h2
  ·omega
 obtain⟨b,o',c',hsl,hc,hcb⟩:∃b o' c',Value.slice ab B.length cb=sl b o' B.length c'∧B.length≤c'∧CellsB w1 b o' B:=by
  rcases hb1.1 with⟨e,hB⟩|⟨a,c,e,hB⟩|h
  ·rw[hB]at hn;simp at hn
  ·rw[hB]at hn;simp at hn
  ·exact h
 rw[hsl]
 have C:=hide (c_setBytes_over x p1 N b o' c' R1 B w1 hx1 hcb hb.2.1 hc (ap1 _ _ _ _ hsl) hn (by omega))
 go_wp2_with fail
 refine C.out.mono ?_
 rintro e w2 ⟨er,rfl,m2⟩
 have h02:=h01.keep1 m2 gp1
 go_wp2_with fail
 go_ret2
 exact⟨er,rfl,h02⟩
theorem k_SetBytes_any(wg w:World)(x n v m mv:Nat)(vb:Value)(B:List Nat)(h0:Mod [] wg w)(hm:MdAt wg m mv)(hx:NumAt w wg.heap.size x n v)(hb:GotB w vb B)(ha:ApartN w vb x)(hn:0<B.length)(hl:B.length≤100000)(hfit:bval B<mv→B.length≤8*wlen mv) :
 Calls Tryz.prog 85 #[ptr x,vb,ptr m] w fun e w'=>
  (bval B<mv∧e=.returned (.tuple #[ptr x,.nilIface])∧Mod [] wg w'∧NumAt w' wg.heap.size x (wlen mv) (bval B)) ∨
  (mv≤bval B∧∃er,e=.returned (.tuple #[.pointer none,.iface 173 (ptr er)])∧Mod [] wg w'):=by
 have hs:=h0.size
 rcases Nat.lt_or_ge (bval B) mv with hlt|hge
 ·refine(k_SetBytes w _ x n v m mv vb B hx (hm.mod h0) hb ha (MSep.base h0 hm hx) (hfit hlt) hn hlt).mono ?_
  rintro e w' ⟨rfl,f,h⟩
  exact .inl ⟨hlt,rfl,f.back h0 hx,h hs⟩
 ·by_cases hf:B.length≤8*wlen mv
  ·refine(k_SetBytes_bad w _ x n v m mv vb B hx (hm.mod h0) hb ha (MSep.base h0 hm hx) hf hn hge hs).mono ?_
   rintro e w' ⟨er,rfl,h⟩
   exact .inr ⟨hge,er,rfl,h wg rfl h0⟩
  ·refine(k_SetBytes_long wg w x n v m mv vb B h0 hm hx hb ha (by omega) hl).mono ?_
   rintro e w' ⟨er,rfl,h⟩
   exact .inr ⟨hge,er,rfl,h⟩
theorem MSep.mod{w w':World}{o m g n v mv:Nat}(s:MSep w o m)(ho:NumAt w g o n v)(hm:MdAt w m mv)(h:Mod [] w w'):MSep w' o m:=by
 obtain⟨p,L,R,hx,r⟩:=ho
 obtain⟨k,y,q,M,Q,hM,r'⟩:=hm
 intro p1 L1 R1 k1 y1 q1 M1 Q1 h1 h2
 have e1:=h1.same (hx.mod h (by simp) (by simp))
 obtain⟨rfl,rfl⟩:=h2.same (hM.mod h)
 subst e1
 exact s _ _ _ _ _ _ _ _ hx hM
theorem Fr.base{wg w w':World}{o m n v mv:Nat}(f:Fr w w' o)(h0:Mod [] wg w)(ho:NumAt w wg.heap.size o n v)(hm:MdAt wg m mv):MdAt w' m mv:=hm.mod (f.back h0 ho)
theorem cell_up{w w':World}{k i:Nat}{v:Value}(h:w.cell? ⟨k,i,none⟩=some v)(m:Mod [] w w'):w'.cell? ⟨k,i,none⟩=some v:=by
 rw[←h];exact World.cell?_of_block (m.block k (block_lt_of_cell h) (by simp))
structure KeyLaw(p q e d qi:Nat):Prop where
 p3:3<p
 q3:3<q
 po:p%2=1
 qo:q%2=1
 pl:wlen p≤15
 ql:wlen q≤15
 nl:blen (p*q)≤4000
 e2:2≤e
 eo:e%2=1
 eb:e≤2147483647
 ep:e<p-1
 eq:e<q-1
 dlt:d<p*q
 dp:e*(d%(p-1))%(p-1)=1
 dq:e*(d%(q-1))%(q-1)=1
 inv:qi<p∧(q%p)*qi%p=1
 near:(blen (p*q):Int)/2-100<blen (if p≤q then q-p else p-q)
 long:blen (p*q)/2<blen d
 ne:p≠q
abbrev PKey(w:World)(k n en d p q:Nat)(v1 v2:Value)(qi:Nat)(b:Bool):Prop:=Blk w k 121 [ptr n,.int .i64 en,ptr d,ptr p,ptr q,v1,v2,ptr qi,.bool b]
section
variable {w:World} {k n en d p q qi:Nat} {v1 v2:Value} {b:Bool} (h:PKey w k n en d p q v1 v2 qi b)
include h in
theorem PKey.c0:w.cell? ⟨k,0,none⟩=some (ptr n):=by rw[Blk.cell h];rfl
include h in
theorem PKey.c1:w.cell? ⟨k,1,none⟩=some (.int .i64 en):=by rw[Blk.cell h];rfl
include h in
theorem PKey.c2:w.cell? ⟨k,2,none⟩=some (ptr d):=by rw[Blk.cell h];rfl
include h in
theorem PKey.c3:w.cell? ⟨k,3,none⟩=some (ptr p):=by rw[Blk.cell h];rfl
include h in
theorem PKey.c4:w.cell? ⟨k,4,none⟩=some (ptr q):=by rw[Blk.cell h];rfl
include h in
theorem PKey.c5:w.cell? ⟨k,5,none⟩=some v1:=by rw[Blk.cell h];rfl
include h in
theorem PKey.c6:w.cell? ⟨k,6,none⟩=some v2:=by rw[Blk.cell h];rfl
include h in
theorem PKey.c7:w.cell? ⟨k,7,none⟩=some (ptr qi):=by rw[Blk.cell h];rfl
include h in
theorem PKey.c8:w.cell? ⟨k,8,none⟩=some (.bool b):=by rw[Blk.cell h];rfl
include h in
theorem PKey.set(b':Bool):PKey (w.setCell ⟨k,8,none⟩ (.bool b')) k n en d p q v1 v2 qi b':=Blk.setCell h 8 (.bool b')
end
theorem fit_le{v mv:Nat}(h:v≤mv):(blen v+7)/8≤8*wlen mv:=by
 have:=blen_mono h
 unfold wlen
 omega
theorem size_pos{v:Nat}(h:v≠0):0<(blen v+7)/8:=by have:=blen_pos h;omega
theorem lt_size_self(v:Nat):v<256^((blen v+7)/8):=by
 have h1:=lt_two_blen v
 have h2:2^blen v≤2^(8*((blen v+7)/8)):=Nat.pow_le_pow_right (by omega) (by omega)
 rw[Nat.pow_mul,show(2:Nat)^8=256 from rfl]at h2
 omega
theorem run_eqlIn_nil{P:Program}{t e:Nat}(hu:P.underlying t=some (.slice e))(d b o n c:Nat)(w:World):(Op.equalIn (d+1) t (sl b o n c) (.slice none 0 0)).run P w=.ok false w:=by
 simp[Op.equalIn,underlying,hu]
theorem run_eql_nil{P:Program}{t e:Nat}(hu:P.underlying t=some (.slice e))(b o n c:Nat)(w:World):(Op.equal t (sl b o n c) (.slice none 0 0)).run P w=.ok false w:=run_eqlIn_nil hu 9999 b o n c w
theorem eql_nil(b o n c:Nat)(w:World):(binOp BinOp.eql 23 (sl b o n c) (.slice none 0 0)).run Tryz.prog w=.ok (.bool false) w:=by
 simp[binOp,run_eql_nil (P:=Tryz.prog) Tryz.underlying23]
theorem Blk.up{w w':World}{b T:Nat}{vs:List Value}(h:Blk w b T vs)(m:Mod [] w w'):Blk w' b T vs:=h.mod m (by simp)
theorem k_SetOver2(wg w:World)(x n v m mv:Nat)(vb:Value)(B:List Nat)(h0:Mod [] wg w)(hm:MdAt wg m mv)(hx:NumAt w wg.heap.size x n v)(hb:GotB w vb B)(ha:ApartN w vb x)(hn:0<B.length)(hl:B.length≤100000) :
 Calls Tryz.prog 143 #[ptr x,vb,ptr m] w fun e w'=>∃v1 v2,e=.returned (.tuple #[v1,v2])∧Mod [] wg w' ∧
  ((v1=ptr x∧v2=.nilIface∧NumAt w' wg.heap.size x (wlen mv) (bval B%mv))∨(v1=.pointer none∧∃er,v2=.iface 173 (ptr er))):=by
 refine(k_SetOver wg w x n v m mv vb B h0 hm hx hb ha hn hl).mono ?_
 rintro e w' (⟨rfl,h1,h2⟩|⟨er,rfl,h1⟩)
 ·exact⟨_,_,rfl,h1,.inl ⟨rfl,rfl,h2⟩⟩
 ·exact⟨_,_,rfl,h1,.inr ⟨rfl,er,rfl⟩⟩
theorem k_SetBytes2(wg w:World)(x n v m mv:Nat)(vb:Value)(B:List Nat)(h0:Mod [] wg w)(hm:MdAt wg m mv)(hx:NumAt w wg.heap.size x n v)(hb:GotB w vb B)(ha:ApartN w vb x)(hn:0<B.length)(hl:B.length≤100000)(hfit:bval B<mv→B.length≤8*wlen mv) :
 Calls Tryz.prog 85 #[ptr x,vb,ptr m] w fun e w'=>∃v1 v2,e=.returned (.tuple #[v1,v2])∧Mod [] wg w' ∧
  ((bval B<mv∧v1=ptr x∧v2=.nilIface∧NumAt w' wg.heap.size x (wlen mv) (bval B))∨(mv≤bval B∧v1=.pointer none∧∃er,v2=.iface 173 (ptr er))):=by
 refine(k_SetBytes_any wg w x n v m mv vb B h0 hm hx hb ha hn hl hfit).mono ?_
 rintro e w' (⟨h0,rfl,h1,h2⟩|⟨h0,er,rfl,h1⟩)
 ·exact⟨_,_,rfl,h1,.inl ⟨h0,rfl,rfl,h2⟩⟩
 ·exact⟨_,_,rfl,h1,.inr ⟨h0,rfl,er,rfl⟩⟩
theorem fit_lt{B:List Nat}{v mv:Nat}(hl:B.length=(blen v+7)/8)(hv:bval B=v):bval B<mv→B.length≤8*wlen mv:=by
 intro h
 rw[hl]
 exact fit_le (by omega)
def KHeld(b w:World)(k i:Nat)(v:Value):Prop:=w.cell? ⟨k,i,none⟩=some v∧Mod [] b w
theorem KHeld.keep{b w1 w2:World}{k i:Nat}{v:Value}(h:KHeld b w1 k i v)(m:Mod [] w1 w2):KHeld b w2 k i v:=⟨cell_up h.1 m,h.2.then m⟩
theorem KHeld.drew{b w:World}{k i:Nat}{v:Value}(h:KHeld b w k i v):KHeld b w.drew k i v:=h.keep ((Mod.refl [] w).drew)
theorem subV_zero{a m:Nat}(h:0<a):subV 0 a m=m-a:=by unfold subV;rw[if_neg (by omega)];omega
theorem wlen_pos{v:Nat}(h:v≠0):1≤wlen v:=by have:=blen_pos h;unfold wlen;omega
theorem wlen_pred{v k:Nat}(h:wlen v≤k):wlen (v-1)≤k:=by have:=blen_mono (show v-1≤v by omega);unfold wlen at *;omega
theorem pred_even{v:Nat}(h:1≤v)(ho:v%2=1):(v-1)%2=0:=by omega
theorem eqB_self(a:Nat):eqB a a=1:=(eqB_iff a a).1.2 rfl
theorem eqB_one{a b:Nat}(h:a=b):eqB a b=1:=(eqB_iff a b).1.2 h
set_option maxRecDepth 100000 in
theorem k_check(w:World)(k m en mv:Nat)(hk:k<w.heap.size)(hc0:w.cell? ⟨k,0,none⟩=some (ptr m))(hc1:w.cell? ⟨k,1,none⟩=some (.int .i64 en))(hm:MdAt w m mv)(hb:mv%2=1)(h2:2≤en)(ho:en%2=1)(hl:en≤2147483647) :
 Calls Tryz.prog 55 #[ptr k] w fun e w'=>∃f,e=.returned (.tuple #[.bool f,.nilIface])∧Mod [] w w':=by
 have ha:=and_one_i64 (n:=en) (by omega)
 rw[ho]at ha
 have h2':¬(en:Int)<2:=by omega
 have hl':¬(2147483647:Int)<(en:Int):=by omega
 have HB:=hide hb
 clear ho h2 hl hb
 go_enter Tryz.func55,Tryz.ntmps55
 go_wp2_with fail
 refine(k_Nat _ m mv hm).mono ?_
 rintro e w1 ⟨y,rfl,m1,hy1⟩
 have hm1:=hm.mod m1
 have hc0':w1.cell? ⟨k,0,none⟩=some (ptr m):=by rw[←hc0];exact World.cell?_of_block (m1.block k hk (by simp))
 have hc1':w1.cell? ⟨k,1,none⟩=some (.int .i64 en):=by rw[←hc1];exact World.cell?_of_block (m1.block k hk (by simp))
 go_wp2_with fail
 refine(k_IsOdd _ _ y _ _ hy1).mono ?_;rintro e w' ⟨rfl,rfl⟩
 rw[HB.out]
 obtain⟨bl,hbl⟩:∃bl,bl=blen mv:=⟨_,rfl⟩
 have HBL:=hide hbl
 clear hbl
 go_wp2_with fail
 refine(k_BitLen _ m _ hm1).mono ?_;rintro e w' ⟨rfl,rfl⟩
 rw[←HBL.out]
 go_wp2_with fail
 all_goals
  refine(k_BitLen _ m _ hm1).mono ?_;rintro e w' ⟨rfl,rfl⟩
  rw[←HBL.out]
 all_goals go_wp2_with fail
 all_goals go_ret2
 all_goals exact⟨_,rfl,m1⟩
theorem k_ExpShort(wg w:World)(o no vo g x v m mv en:Nat)(h0:Mod [] wg w)(hm:MdAt wg m mv)(ho:mv%2=1)(hO:NumAt w wg.heap.size o no vo)(hx:NumAt w g x (wlen mv) v)(hv:v<mv)(he1:1≤en)(he2:en<2147483648) :
 Calls Tryz.prog 86 #[ptr o,ptr x,u64 en,ptr m] w fun e w'=>e=.returned (ptr o)∧Fr w w' o∧Mod [] wg w'∧NumAt w' wg.heap.size o (wlen mv) (v^en%mv):=by
 obtain⟨k,y,q,M,Q,hM,rfl⟩:=hm
 obtain⟨po,Lo,Ro,hO,g1,g2,rfl,wo,rfl⟩:=hO
 obtain⟨p,L,R,hx,g3,g4,hl,wL,rfl⟩:=hx
 rw[←hM.wlen]at hl
 refine(c_ExpShort wg w k m y q o po x p en M Q Lo Ro L R h0 hM ho hO hx ⟨hl,wL,hv⟩ g1 g2 he1 he2).mono ?_
 rintro e w' ⟨p',X,R',rfl,m1,h1,k1,gp,bX,eX⟩
 exact⟨rfl,⟨po,p',_,_,_,_,hO,h1,m1,k1⟩,h0.keep2 m1 g1 g2,p',X,R',h1,g1,gp,by rw[bX.len,hM.wlen],bX.words,eX⟩
set_option maxRecDepth 100000 in
theorem k_PSize(w:World)(k n Nv:Nat)(hc:w.cell? ⟨k,0,none⟩=some (ptr n))(hn:MdAt w n Nv)(bN:blen Nv≤4000):Calls Tryz.prog 56 #[ptr k] w fun e w'=>e=.returned (i64 ((blen Nv+7)/8))∧w=w':=by
 obtain⟨b,hb⟩:∃b,b=blen Nv:=⟨_,rfl⟩
 obtain⟨r,hr⟩:∃r,r=(b+7)/8:=⟨_,rfl⟩
 have HB:=hide hb
 rw[←hb,←hr]
 rw[←hb]at bN
 have e0:((b:Int)+7).tdiv 8=(r:Int):=by rw[hr];rfl
 have e2:((b:Int)+7)/8=(r:Int):=by omega
 have e1:IntKind.i64.wrap ((b:Int)+7)=(b:Int)+7:=IntWalk.i64_in _ (by omega)
 have e3:IntKind.i64.wrap (r:Int)=(r:Int):=IntWalk.i64_in _ (by omega)
 clear hb hr
 go_enter Tryz.func56,Tryz.ntmps56
 go_wp2_with fail
 refine(k_BitLen _ n _ hn).mono ?_
 rintro e w' ⟨rfl,rfl⟩
 rw[←HB.out]
 go_wp2_with fail
 go_ret
 exact⟨rfl,rfl⟩
set_option maxRecDepth 100000 in
theorem k_encrypt(w:World)(k m en Nv:Nat)(hk:PHead w k m (en:Int))(hm:MdAt w m Nv)(ho:Nv%2=1)(he1:1≤en)(he2:en<2147483648)(vB:Value)(B:List Nat)(gB:GotB w vB B)(lB:B.length=(blen Nv+7)/8)(hlt:bval B<Nv)(bN:blen Nv≤4000) :
 Calls Tryz.prog 59 #[ptr k,vB] w fun e w'=>∃b C,e=.returned (.tuple #[sl b 0 C.length C.length,.nilIface])∧Mod [] w w'∧Blk w' b 5 (C.map u8)∧C.length=(blen Nv+7)/8∧Bytes C∧bval C=bval B^en%Nv:=by
 have h1N:1<Nv:=hm.pos.2.1
 have lB8:B.length≤8*wlen Nv:=by rw[lB];exact fit_le (Nat.le_refl _)
 have l0B:0<B.length:=by rw[lB];exact size_pos (by omega)
 have NO:=hide ho
 have HLT:=hide hlt
 have k0:=PHead.c0 hk
 have k1:=PHead.c1 hk
 have hfit:∀v,v%Nv<256^((blen Nv+7)/8):=fun v=>lt_size (Nat.mod_lt _ (by omega))
 have HF:=hide hfit
 have ee:IntKind.u64.wrap (en:Int)=(en:Int):=IntWalk.u64_in _ (by omega)
 have bS9:Mod [] w w:=Mod.refl _ _
 clear ho lB hlt hk hfit
 go_enter Tryz.func59,Tryz.ntmps59
 go_wp2_with fail
 go_region_held3 (fun w'=>w'.cell? ⟨k,0,none⟩=some (ptr m)∧Mod [] w w')
  (first|exact⟨cell_up k0 bv2,bv2⟩|exact⟨cell_up k0 bv1,bv1⟩|exact⟨cell_up k0 bS9.drew,bS9.drew⟩)
  (first|(go_at_call 84;refine(k_New _).mono ?_;rintro e v1 ⟨x1,rfl,mm,n1⟩;replace mm:=mm.ofDrew;have bv1:=bS9.then mm;clear mm)|(go_at_call 85;refine(k_SetBytes _ _ x1 _ _ m _ vB B n1 (hm.mod bv1) (gB.mod bv1) (ApartN.old gB n1) (MSep.base bv1 hm n1) lB8 l0B HLT.out).mono ?_;rintro e v2 ⟨rfl,f,n'⟩;have nn_:=n' bv1.size;have bv2:=f.back bv1 n1;clear n1 n' f))
 have n1:=nn_
 have c0:=cell_up k0 bv2
 have c1:=cell_up k1 bv2
 have bS2:Mod [] v2 v2:=Mod.refl _ _
 have hm2:=hm.mod bv2
 have hs2:=bv2.size
 clear nn_ bS9 k0 k1
 go_wp2_with fail
 go_region_held3 (fun w'=>w'.cell? ⟨k,0,none⟩=some (ptr m)∧w'.cell? ⟨k,1,none⟩=some (.int .i64 (en:Int))∧Mod [] v2 w')
  (first|exact⟨cell_up c0 bv5,cell_up c1 bv5,bv5⟩|exact⟨cell_up c0 bv4,cell_up c1 bv4,bv4⟩|exact⟨cell_up c0 bv3,cell_up c1 bv3,bv3⟩|exact⟨cell_up c0 bS2.drew,cell_up c1 bS2.drew,bS2.drew⟩)
  (first|(go_at_call 84;refine(k_New _).mono ?_;rintro e v3 ⟨x2,rfl,mm,n2⟩;replace mm:=mm.ofDrew;have bv3:=bS2.then mm;clear mm)|(go_at_call 86;refine(k_ExpShort _ _ x2 _ _ _ x1 _ m _ en bv3 hm2 NO.out n2 (n1.mod bv3) HLT.out he1 he2).mono ?_;rintro e v4 ⟨rfl,-,bv4,n4⟩)|(go_at_call 87;refine(k_Bytes _ _ x2 _ _ m _ n4 (hm2.mod bv4) (HF.out _) (by omega)).mono ?_;rintro e v5 ⟨b,C,rfl,m5,hC,-,lC,bC,eC⟩;have bv5:=bv4.then m5;have HC:=hide (And.intro lC (And.intro bC eC));clear m5 lC bC eC))
 have bw5:=bv2.then bv5
 clear c0 c1
 go_wp2_with fail
 go_ret2
 exact⟨b,C,rfl,bw5,hC,HC.out⟩
def em4(S L msg:List Nat)(z:Nat):List Nat:=0::(S++db0 L z msg)
theorem em4_length{S L msg:List Nat}{z n:Nat}(hS:S.length=n)(hL:L.length=n):(em4 S L msg z).length=2*n+2+z+msg.length:=by
 rw[em4,List.length_cons,List.length_append,db0_length,hS,hL];omega
theorem nth_succ(x:Nat)(B:List Nat)(i:Nat):nth (x::B) (i+1)=nth B i:=rfl
theorem nth_em4{S L msg:List Nat}{z n:Nat}(hS:S.length=n)(hL:L.length=n)(j:Nat) :
 nth (em4 S L msg z) j=if j=0 then 0 else if j<1+n then nth S (j-1)else if j<1+2*n then nth L (j-1-n)else if j<1+2*n+z then 0 else if j=1+2*n+z then 1 else nth msg (j-(2+2*n+z)):=by
 unfold em4
 by_cases h0:j=0
 ·subst h0;rfl
 ·obtain⟨i,rfl⟩:∃i,j=i+1:=⟨j-1,by omega⟩
  rw[if_neg h0,nth_succ]
  by_cases h1:i<n
  ·rw[if_pos (by omega),nth_append_left (by omega),Nat.add_sub_cancel]
  ·rw[if_neg (by omega),nth_append_right (by omega),hS]
   unfold db0
   by_cases h2:i-n<n
   ·rw[if_pos (by omega),nth_append_left (by omega)]
    (congr 1<;>omega)
   ·rw[if_neg (by omega),nth_append_right (by omega),hL]
    by_cases h3:i-n-n<z
    ·rw[if_pos (by omega),nth_append_left (by simpa using h3),nth_replicate0]
    ·rw[if_neg (by omega),nth_append_right (by simpa using Nat.not_lt.1 h3),List.length_replicate]
     by_cases h4:i-n-n=z
     ·rw[if_pos (by omega),show i-n-n-z=0 by omega];rfl
     ·rw[if_neg (by omega)]
      obtain⟨q,hq⟩:∃q,i-n-n-z=q+1:=⟨i-n-n-z-1,by omega⟩
      rw[hq,nth_succ]
      (congr 1<;>omega)
theorem em4_eq{S L msg:List Nat}{z n k:Nat}(hS:S.length=n)(hL:L.length=n)(hk:k=2*n+2+z+msg.length) :
 putS (putS ((putS (List.replicate k 0) L (1+n)).set (k-msg.length-1) 1) msg (k-msg.length)) S 1=em4 S L msg z:=by
 have l0:(List.replicate k 0).length=k:=List.length_replicate ..
 have l1:(putS (List.replicate k 0) L (1+n)).length=k:=by rw[putS_length (by rw[l0];omega),l0]
 have l2:((putS (List.replicate k 0) L (1+n)).set (k-msg.length-1) 1).length=k:=by rw[List.length_set,l1]
 have l3:(putS ((putS (List.replicate k 0) L (1+n)).set (k-msg.length-1) 1) msg (k-msg.length)).length=k:=by rw[putS_length (by rw[l2];omega),l2]
 have l4:(putS (putS ((putS (List.replicate k 0) L (1+n)).set (k-msg.length-1) 1) msg (k-msg.length)) S 1).length=k:=by rw[putS_length (by rw[l3];omega),l3]
 refine list_ext (by rw[l4,em4_length hS hL,hk]) fun j hj=>?_
 rw[l4]at hj
 rw[nth_em4 hS hL,nth_putS (by rw[l3];omega) (by rw[l3];exact hj),hS]
 by_cases c1:1≤j∧j<1+n
 ·rw[if_pos c1,if_neg (by omega),if_pos (by omega)]
 ·rw[if_neg c1,nth_putS (by rw[l2];omega) (by rw[l2];exact hj)]
  by_cases c2:k-msg.length≤j∧j<k-msg.length+msg.length
  ·rw[if_pos c2,if_neg (by omega),if_neg (by omega),if_neg (by omega),if_neg (by omega),if_neg (by omega)]
   (congr 1<;>omega)
  ·rw[if_neg c2]
   by_cases c3:k-msg.length-1=j
   ·rw[←c3,nth_set_same (by rw[l1];omega),if_neg (by omega),if_neg (by omega),if_neg (by omega),if_neg (by omega),if_pos (by omega)]
   ·rw[nth_set_ne c3,nth_putS (by rw[l0];omega) (by rw[l0];exact hj),hL]
    by_cases c4:1+n≤j∧j<1+n+n
    ·rw[if_pos c4,if_neg (by omega),if_neg (by omega),if_pos (by omega)]
     (congr 1<;>omega)
    ·rw[if_neg c4,nth_replicate0]
     by_cases c5:j=0
     ·rw[if_pos c5]
     ·rw[if_neg c5,if_neg (by omega),if_neg (by omega),if_pos (by omega)]
theorem em4_bytes{S L msg:List Nat}{z:Nat}(hS:Bytes S)(hL:Bytes L)(hm:Bytes msg):Bytes (em4 S L msg z):=bytes_cons (by omega) (bytes_append hS (db0_bytes hL hm))
def em5(H:List Nat→List Nat)(n k:Nat)(E:List Nat):List Nat:=xorAt H n (cut E 1 n) (1+n) (k-1-n) E
def em6(H:List Nat→List Nat)(n k:Nat)(E:List Nat):List Nat:=xorAt H n (cut (em5 H n k E) (1+n) (k-1-n)) 1 n (em5 H n k E)
theorem xorAt_twice{H:List Nat→List Nat}{n:Nat}{S:List Nat}{o t:Nat}{E:List Nat}:xorAt H n S o t (xorAt H n S o t E)=E:=list_ext (by rw[xorAt_length,xorAt_length]) fun j hj=>by
 rw[xorAt_length,xorAt_length]at hj
 rw[nth_xorAt (by rw[xorAt_length];exact hj)]
 by_cases h:o≤j∧j<o+t
 ·rw[if_pos h,nth_xorAt hj,if_pos h,Nat.xor_assoc,Nat.xor_self,Nat.xor_zero]
 ·rw[if_neg h,nth_xorAt hj,if_neg h]
theorem em5_length(H:List Nat→List Nat)(n k:Nat)(E:List Nat):(em5 H n k E).length=E.length:=xorAt_length ..
theorem em6_length(H:List Nat→List Nat)(n k:Nat)(E:List Nat):(em6 H n k E).length=E.length:=by rw[em6,xorAt_length,em5_length]
theorem em6_back1{H:List Nat→List Nat}{n k:Nat}{E:List Nat}(hk:E.length=k)(hn:1+n≤k):xorAt H n (cut (em6 H n k E) (1+n) (k-1-n)) 1 n (em6 H n k E)=em5 H n k E:=by
 have h:cut (em6 H n k E) (1+n) (k-1-n)=cut (em5 H n k E) (1+n) (k-1-n):=cut_xorAt_apart (by rw[em5_length];omega) (by omega)
 rw[h]
 exact xorAt_twice
theorem em6_back2{H:List Nat→List Nat}{n k:Nat}{E:List Nat}(hk:E.length=k)(hn:1+n≤k):xorAt H n (cut (em5 H n k E) 1 n) (1+n) (k-1-n) (em5 H n k E)=E:=by
 have h:cut (em5 H n k E) 1 n=cut E 1 n:=cut_xorAt_apart (by omega) (by omega)
 rw[h]
 exact xorAt_twice
theorem em6_zero{H:List Nat→List Nat}{n k:Nat}{E:List Nat}(hl:0<E.length):nth (em6 H n k E) 0=nth E 0:=by
 unfold em6
 rw[nth_xorAt (by rw[em5_length];exact hl),if_neg (by omega)]
 unfold em5
 rw[nth_xorAt hl,if_neg (by omega)]
theorem em6_bytes{H:List Nat→List Nat}{n k:Nat}{E:List Nat}(hH:HashOk H n)(hE:Bytes E):Bytes (em6 H n k E):=xorAt_bytes hH (xorAt_bytes hH hE)
end Go.Proofs.YtfgmnbmnpihjdaaGreatDoor
