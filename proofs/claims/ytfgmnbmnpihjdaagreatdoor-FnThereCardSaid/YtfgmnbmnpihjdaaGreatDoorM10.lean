/- Lemmas of mine for the walk and its plain laws: Sha512C -/
import Derived.Test.YtfgmnbmnpihjdaaGreatDoorM09
import Derived.Deep.DeepCutAuto
set_option linter.all false
set_option exponentiation.threshold 7000000
set_option maxHeartbeats 4000000
namespace Go.Proofs.YtfgmnbmnpihjdaaGreatDoor
open Go.RowKit
def padT512(n:Nat):Nat:=if n%128<112 then 112-n%128 else 240-n%128
def padF512(n j:Nat):Nat:=(((8*n:Nat):Int)/2^(56-8*j)%256).toNat
def padP512(n:Nat):List Nat:=cut (putL ((List.replicate 144 0).set 0 128) (padT512 n+8) 8 (padF512 n)) 0 (padT512 n+16)
theorem padT512_le(n:Nat):0<padT512 n∧padT512 n≤128∧(n+(padT512 n+16))%128=0:=by
 unfold padT512
 split<;>omega
theorem padP512_length(n:Nat):(padP512 n).length=padT512 n+16:=cut_length ..
def dig512(h:List Int):List Nat:=putL (putL (putL (putL (putL (putL (putL (putL (List.replicate 64 0) 0 8 (fun j=>(ith h 0/2^(56-8*j)%256).toNat)) 8 8 (fun j=>(ith h 1/2^(56-8*j)%256).toNat)) 16 8 (fun j=>(ith h 2/2^(56-8*j)%256).toNat)) 24 8 (fun j=>(ith h 3/2^(56-8*j)%256).toNat)) 32 8 (fun j=>(ith h 4/2^(56-8*j)%256).toNat)) 40 8 (fun j=>(ith h 5/2^(56-8*j)%256).toNat)) 48 8 (fun j=>(ith h 6/2^(56-8*j)%256).toNat)) 56 8 (fun j=>(ith h 7/2^(56-8*j)%256).toNat)
def dig384(h:List Int):List Nat:=putL (putL (putL (putL (putL (putL (List.replicate 64 0) 0 8 (fun j=>(ith h 0/2^(56-8*j)%256).toNat)) 8 8 (fun j=>(ith h 1/2^(56-8*j)%256).toNat)) 16 8 (fun j=>(ith h 2/2^(56-8*j)%256).toNat)) 24 8 (fun j=>(ith h 3/2^(56-8*j)%256).toNat)) 32 8 (fun j=>(ith h 4/2^(56-8*j)%256).toNat)) 40 8 (fun j=>(ith h 5/2^(56-8*j)%256).toNat)
set_option maxRecDepth 100000 in
theorem c_check512(d:Nat)(M:List Nat)(K:List Int)(w:World)(hD:DgAt (blk512 K) 128 v64 145 w d ini512 (i64 64) M)(hK:Blk w 6 241 (K.map v64))(lK:K.length=80)(lM:M.length≤50000) :
 Calls Tryz.prog 191 #[ptr d] w fun e w'=>e=.returned (.agg ((dig512 (stH (blk512 K) 128 ini512 (M++padP512 M.length))).map u8).toArray)∧Mod [d] w w'∧w'.cell? ⟨d,138,none⟩=some (i64 64):=by
 have hD0:=hD
 obtain⟨X,lX,hX,hB⟩:=hD0
 have lh:=st512_length (K:=K) (ini:=ini512) rfl M
 have hdl:=hB.lt
 obtain⟨t,ht⟩:∃t,t=padT512 M.length:=⟨_,rfl⟩
 have htl:=padT512_le M.length
 rw[←ht]at htl
 obtain⟨W0,hW0⟩:∃W0,W0=w.alloc (.cells (List.replicate 64 (u8 0)).toArray 139):=⟨_,rfl⟩
 obtain⟨W1,hW1⟩:∃W1,W1=W0.alloc (.cells (List.replicate 144 (u8 0)).toArray 240):=⟨_,rfl⟩
 obtain⟨r,hr⟩:∃r,r=M.length%128:=⟨_,rfl⟩
 obtain⟨L8,hL8⟩:∃L8,L8=8*M.length:=⟨_,rfl⟩
 obtain⟨n,hn⟩:∃n,n=t+16:=⟨_,rfl⟩
 obtain⟨g2,hg2⟩:∃g2,g2=W0.heap.size:=⟨_,rfl⟩
 have m0:Mod [] w W0:=by rw[hW0];exact(Mod.refl [] w).alloc _
 have m1:Mod [] w W1:=by rw[hW1];exact m0.alloc _
 have hR0:Blk W0 w.heap.size 139 ((List.replicate 64 0).map u8):=by rw[hW0,List.map_replicate];exact Blk.new w _ _
 have hT1:Blk W1 g2 240 ((List.replicate 144 0).map u8):=by rw[hW1,hg2,List.map_replicate];exact Blk.new W0 _ _
 have hg2w:w.heap.size<g2:=by rw[hg2,hW0];simp
 have cl:=DgRow.at_ln (hB.mod m0 (by simp)) lh lX (o:=137) rfl
 have cl1:=DgRow.at_ln (hB.mod m1 (by simp)) lh lX (o:=137) rfl
 have ct:=hT1.at 0 (by simp)
 have ft:=hT1.frozen 0
 obtain⟨W2,hW2⟩:∃W2,W2=W1.setCell ⟨g2,0,none⟩ (.int .u8 128):=⟨_,rfl⟩
 have hT2:Blk W2 g2 240 (((List.replicate 144 0).set 0 128).map u8):=by rw[hW2];exact hT1.set 0 128
 have m2:Mod [] w W2:=by rw[hW2];exact m1.setCell _ _ (fun h=>absurd h (by simp;omega))
 have hR1:Blk W1 w.heap.size 139 ((List.replicate 64 0).map u8):=by rw[hW1];exact hR0.alloc _
 have hR2:Blk W2 w.heap.size 139 ((List.replicate 64 0).map u8):=by rw[hW2];exact hR1.setCell_other _ _ (Nat.ne_of_lt hg2w)
 clear hR0 hR1
 have e1:(M.length:Int)%128=(r:Int):=by omega
 have e2:(M.length:Int).tmod 128=(r:Int):=by rw[Int.tmod_eq_emod_of_nonneg (by omega)];exact e1
 have e3:(M.length:Int)*8=(L8:Int):=by omega
 have e4:(t:Int)+16=(n:Int):=by omega
 have w3:IntKind.u64.wrap (L8:Int)=(L8:Int):=IntWalk.u64_in _ (by omega)
 have w4:IntKind.u64.wrap (n:Int)=(n:Int):=IntWalk.u64_in _ (by omega)
 have w5:IntKind.u64.wrap (t:Int)=(t:Int):=IntWalk.u64_in _ (by omega)
 have hlt8:L8<18446744073709551616:=by omega
 have ht2:(r<112∧(112:Int)-(r:Int)=(t:Int))∨(¬(r:Int)<112∧(240:Int)-(r:Int)=(t:Int)):=by
  have h:=ht
  unfold padT512 at h
  rw[←hr]at h
  split at h
  ·left;omega
  ·right;omega
 have HT:=hide ht
 have HN:=hide hn
 have HL8:=hide hL8
 have HTL:=hide htl
 have HG:=hide hg2w
 clear hr hL8 hn ht hX htl hg2w
 go_enter Tryz.func191,Tryz.ntmps191
 go_upto_region 1 with fail
 refine(?_:Code.wp _ _ _ _ (w.alloc (.cells (List.replicate 64 (u8 0)).toArray 139)))
 rw[←hW0]
 clear hW0
 go_upto_region 3 with fail
 refine(?_:Code.wp _ _ _ _ (W0.alloc (.cells (List.replicate 144 (u8 0)).toArray 240)))
 rw[←hW1,←hg2]
 clear hW1 hg2
 go_upto_region 4 with fail
 rw[←hW2]
 clear hW2 cl ct ft
 go_upto_if 15 with fail
 go_cut [5]from 16 to 21 (fun tv wx=>tv=u64 t∧wx=W2)
 case first=>
  rcases ht2 with⟨hr1,hr2⟩|⟨hr1,hr2⟩
  ·have hr3:(r:Int)<112:=by omega
   go_wp2_with fail
   go_meet
   exact⟨rfl,rfl⟩
  ·go_wp2_with fail
   go_meet
   exact⟨rfl,rfl⟩
 case rest=>
  obtain⟨rfl,rfl⟩:=hcut
  have hn:=HN.out
  have htl:=HTL.out
  have hs9:=fun u=>run_arr_to Tryz.underlying240 (n:=144) (by kernel_rfl) (by kernel_rfl) (by kernel_rfl) .u64 g2 0 n (by omega) (by omega) u
  obtain⟨t8,ht8⟩:∃t8,t8=t+8:=⟨_,rfl⟩
  have e8:(t:Int)+8=(t8:Int):=by omega
  have w8:IntKind.u64.wrap (t8:Int)=(t8:Int):=IntWalk.u64_in _ (by omega)
  have ne1:¬144=t8:=by omega
  have ne2:¬t8=144:=by omega
  have nt:(t8:Int)≤(n:Int):=by omega
  have HT8:=hide ht8
  have PUT:=hide (c_put64_512 g2 t8 (n-(t8)) (144-(t8)) 240 (L8:Int) ((List.replicate 144 0).set 0 128) wc hT2 (by omega) (by simp;omega))
  clear e1 e2 ht2 hn htl hT1 cl1 m1 ht8
  go_wp2_with fail
  refine PUT.out.mono ?_
  rintro e wp ⟨O,rfl,mp,hO,hS⟩
  have mwp:Mod [] w wp:=m2.old mp (Nat.le_of_lt HG.out)
  have hRp:=hR2.mod mp (by have:=HG.out;simp;omega)
  clear hR2
  obtain⟨P,hP⟩:∃P,P=padP512 M.length:=⟨_,rfl⟩
  have hPl:P.length=n:=by rw[hP,padP512_length,←HT.out,HN.out]
  have hOP:∀i,i<n→nth O i=nth P i:=fun i hi=>by
   have h8:=HL8.out
   rw[hP]
   unfold padP512
   rw[nth_cut (by rw[←HT.out];have:=HN.out;omega),Nat.zero_add,hS.out.eq,←HT.out,h8,HT8.out]
   rfl
  have hOl:=hS.out.len
  have WR:=hide (c_Write512 d ini512 (i64 64) M P K g2 0 144 wp (hD.mod mwp (by simp)) rfl (hK.mod mwp (by simp)) lK
   (fun i hi=>by rw[hPl]at hi;rw[Nat.zero_add,hO.at i (by rw[hOl];simp;have:=HN.out;have:=HTL.out;omega),hOP i hi]) (by have:=HG.out;omega) (by have:=HN.out;omega) (by have:=HN.out;have:=HTL.out;omega) (by omega) (by have:=HN.out;have:=HTL.out;omega))
  rw[hPl]at WR
  have HPP:=hide hP
  have HPL:=hide hPl
  clear hP hPl hOP hOl PUT hD hK hO hB
  go_wp2_with fail
  refine WR.out.mono ?_
  rintro e wq ⟨rfl,mq,hq⟩
  clear WR
  obtain⟨X5,lX5,-,hB5⟩:=hq
  have hz:(M++P).length%128=0:=by rw[List.length_append,HPL.out,HN.out];exact HTL.out.2.2
  have hfin:(stH (blk512 K) 128 ini512 (M++P)).length=8:=st512_length rfl _
  rw[hz]at hB5
  obtain⟨h,hh⟩:∃h,h=stH (blk512 K) 128 ini512 (M++P):=⟨_,rfl⟩
  rw[←hh]at hB5 hfin
  have bn5:=DgRow.at_nx hB5 hfin lX5 (o:=136) rfl
  have mwq:Mod [d] w wq:=mwp.then1 mq
  have hRq:=hRp.mod mq (by simp;omega)
  clear hRp
  have HH:=hide hh
  clear hh hz
  obtain⟨W6,hW6⟩:∃W6,W6=wq.alloc (.cells (List.replicate 64 (u8 0)).toArray 139):=⟨_,rfl⟩
  obtain⟨g6,hg6⟩:∃g6,g6=wq.heap.size:=⟨_,rfl⟩
  have m6:Mod [] wq W6:=by rw[hW6];exact(Mod.refl [] wq).alloc _
  have hV0:Blk W6 g6 139 ((List.replicate 64 0).map u8):=by rw[hW6,hg6,List.map_replicate];exact Blk.new wq _ _
  have hB6:=hB5.mod m6 (by simp)
  have hd6:d≠g6:=by have:=hB5.lt;omega
  have hg6w:w.heap.size<g6:=by have:=hRq.lt;omega
  have hR6:=hRq.mod m6 (by simp)
  have mw6:Mod [d] w W6:=mwq.trans m6 (fun _ h _=>h) (by simp)
  go_upto_region 15 with fail
  refine(?_:Code.wp _ _ _ _ (wq.alloc (.cells (List.replicate 64 (u8 0)).toArray 139)))
  rw[←hW6,←hg6]
  clear hW6 hg6 bn5
  have lO0:(List.replicate 64 (0:Nat)).length=64:=List.length_replicate ..
  go_upto_region 15 with fail
  have ch0:=DgRow.at_h hB6 hfin (i:=0) (by omega)
  go_region_with ((go_at_call 193;refine(c_put64_512 g6 0 64 64 139 (ith h 0) _ _ hV0.drew (by omega) (by omega)).mono ?_;rintro e V1 ⟨O1,rfl,n1,hV1,q1⟩))
  have hB7:=hB6.drew.mod n1 (by simpa using hd6)
  have lO1:O1.length=64:=q1.out.len.trans lO0
  have hR7:=hR6.drew.mod n1 (by simp;omega)
  have mw7:Mod [d] w V1:=mw6.drew.trans n1 (fun _ h _=>h) (fun x hx hl=>by simp at hx;omega)
  clear ch0 hB6 hR6 mw6
  go_upto_region 16 with fail
  have ch1:=DgRow.at_h hB7 hfin (i:=1) (by omega)
  go_region_with ((go_at_call 193;refine(c_put64_512 g6 8 56 56 139 (ith h 1) _ _ hV1.drew (by omega) (by omega)).mono ?_;rintro e V2 ⟨O2,rfl,n2,hV2,q2⟩))
  have hB8:=hB7.drew.mod n2 (by simpa using hd6)
  have lO2:O2.length=64:=q2.out.len.trans lO1
  have hR8:=hR7.drew.mod n2 (by simp;omega)
  have mw8:Mod [d] w V2:=mw7.drew.trans n2 (fun _ h _=>h) (fun x hx hl=>by simp at hx;omega)
  clear ch1 hB7 hR7 mw7
  go_upto_region 17 with fail
  have ch2:=DgRow.at_h hB8 hfin (i:=2) (by omega)
  go_region_with ((go_at_call 193;refine(c_put64_512 g6 16 48 48 139 (ith h 2) _ _ hV2.drew (by omega) (by omega)).mono ?_;rintro e V3 ⟨O3,rfl,n3,hV3,q3⟩))
  have hB9:=hB8.drew.mod n3 (by simpa using hd6)
  have lO3:O3.length=64:=q3.out.len.trans lO2
  have hR9:=hR8.drew.mod n3 (by simp;omega)
  have mw9:Mod [d] w V3:=mw8.drew.trans n3 (fun _ h _=>h) (fun x hx hl=>by simp at hx;omega)
  clear ch2 hB8 hR8 mw8
  go_upto_region 18 with fail
  have ch3:=DgRow.at_h hB9 hfin (i:=3) (by omega)
  go_region_with ((go_at_call 193;refine(c_put64_512 g6 24 40 40 139 (ith h 3) _ _ hV3.drew (by omega) (by omega)).mono ?_;rintro e V4 ⟨O4,rfl,n4,hV4,q4⟩))
  have hB10:=hB9.drew.mod n4 (by simpa using hd6)
  have lO4:O4.length=64:=q4.out.len.trans lO3
  have hR10:=hR9.drew.mod n4 (by simp;omega)
  have mw10:Mod [d] w V4:=mw9.drew.trans n4 (fun _ h _=>h) (fun x hx hl=>by simp at hx;omega)
  clear ch3 hB9 hR9 mw9
  go_upto_region 19 with fail
  have ch4:=DgRow.at_h hB10 hfin (i:=4) (by omega)
  go_region_with ((go_at_call 193;refine(c_put64_512 g6 32 32 32 139 (ith h 4) _ _ hV4.drew (by omega) (by omega)).mono ?_;rintro e V5 ⟨O5,rfl,n5,hV5,q5⟩))
  have hB11:=hB10.drew.mod n5 (by simpa using hd6)
  have lO5:O5.length=64:=q5.out.len.trans lO4
  have hR11:=hR10.drew.mod n5 (by simp;omega)
  have mw11:Mod [d] w V5:=mw10.drew.trans n5 (fun _ h _=>h) (fun x hx hl=>by simp at hx;omega)
  clear ch4 hB10 hR10 mw10
  go_upto_region 20 with fail
  have ch5:=DgRow.at_h hB11 hfin (i:=5) (by omega)
  go_region_with ((go_at_call 193;refine(c_put64_512 g6 40 24 24 139 (ith h 5) _ _ hV5.drew (by omega) (by omega)).mono ?_;rintro e V6 ⟨O6,rfl,n6,hV6,q6⟩))
  have hB12:=hB11.drew.mod n6 (by simpa using hd6)
  have lO6:O6.length=64:=q6.out.len.trans lO5
  have hR12:=hR11.drew.mod n6 (by simp;omega)
  have mw12:Mod [d] w V6:=mw11.drew.trans n6 (fun _ h _=>h) (fun x hx hl=>by simp at hx;omega)
  clear ch5 hB11 hR11 mw11
  have cf:=DgRow.at_fl hB12 hfin lX5 (o:=138) rfl
  go_upto_region 22 with fail
  have ch6:=DgRow.at_h hB12 hfin (i:=6) (by omega)
  go_region_with ((go_at_call 193;refine(c_put64_512 g6 48 16 16 139 (ith h 6) _ _ hV6.drew (by omega) (by omega)).mono ?_;rintro e V7 ⟨O7,rfl,n7,hV7,q7⟩))
  have hB13:=hB12.drew.mod n7 (by simpa using hd6)
  have lO7:O7.length=64:=q7.out.len.trans lO6
  have hR13:=hR12.drew.mod n7 (by simp;omega)
  have mw13:Mod [d] w V7:=mw12.drew.trans n7 (fun _ h _=>h) (fun x hx hl=>by simp at hx;omega)
  clear ch6 hB12 hR12 mw12
  go_upto_region 23 with fail
  have ch7:=DgRow.at_h hB13 hfin (i:=7) (by omega)
  go_region_with ((go_at_call 193;refine(c_put64_512 g6 56 8 8 139 (ith h 7) _ _ hV7.drew (by omega) (by omega)).mono ?_;rintro e V8 ⟨O8,rfl,n8,hV8,q8⟩))
  have hB14:=hB13.drew.mod n8 (by simpa using hd6)
  have lO8:O8.length=64:=q8.out.len.trans lO7
  have hR14:=hR13.drew.mod n8 (by simp;omega)
  have mw14:Mod [d] w V8:=mw13.drew.trans n8 (fun _ h _=>h) (fun x hx hl=>by simp at hx;omega)
  clear ch7 hB13 hR13 mw13
  go_upto_region 24 with fail
  have hlast:dig512 h=O8:=by
   have hx0:O1=_:=q1.out.eq
   have hx1:O2=_:=q2.out.eq
   have hx2:O3=_:=q3.out.eq
   have hx3:O4=_:=q4.out.eq
   have hx4:O5=_:=q5.out.eq
   have hx5:O6=_:=q6.out.eq
   have hx6:O7=_:=q7.out.eq
   have hx7:O8=_:=q8.out.eq
   rw[hx7,hx6,hx5,hx4,hx3,hx2,hx1,hx0]
   rfl
  have hVl:=(hV8.range:World.rangeAt _ g6 0 _)
  have hsz:(Tryz.prog.info? 139).map (·.size)=some (O8.map u8).length:=by rw[List.length_map,lO8];kernel_rfl
  obtain⟨V9,hV9⟩:∃V9,V9=V8.setCells w.heap.size 0 (O8.map u8).toArray.toList:=⟨_,rfl⟩
  have m9:Mod [d] w V9:=by rw[hV9];exact Mod.setCells _ _ mw14 (fun h=>absurd h (Nat.lt_irrefl _))
  have hB9:=hB14.mod (Mod.setCells (S:=[w.heap.size]) (b:=w.heap.size) (O8.map u8).toArray.toList 0 (Mod.refl [w.heap.size] V8) (fun _=>by simp)) (by simp;omega)
  rw[←hV9]at hB9
  have cf9:=DgRow.at_fl hB9 hfin lX5 (o:=138) rfl
  clear hB9
  have hr9:V9.rangeAt w.heap.size 0 (O8.map u8):=by rw[hV9];exact World.rangeAt_setCells_same _ _ _ _ (hR14.there (by simp[lO8]))
  have hl9:=run_loadVar_mid V9 w.heap.size 0 139 (O8.map u8) _ hr9 Tryz.underlying139 rfl hsz
  have HDG:Hid (dig512 (stH (blk512 K) 128 ini512 (M++padP512 M.length))=O8):=hide (by rw[←HPP.out,←HH.out];exact hlast)
  have hth:=hR14.there (n:=(O8.map u8).toArray.size) (by simp[lO8])
  refine wp_region_lit ?_
  refine wpList_load_mid (by rfl) 139 _ (by rfl) g6 0 (by rfl) (O8.map u8) _ hVl Tryz.underlying139 (by rfl) hsz ?_
  refine wpList_store_mid (by rfl) 139 _ _ (by rfl) w.heap.size 0 (O8.map u8).toArray (by rfl) (by rfl) hth (by simpa using hsz) (all_oneCell_toArray (oneCell_map u8 (fun _=>rfl) _)) ?_
  refine wpList_nil ?_
  rw[←hV9]
  clear hlast hV9 hsz hVl hr9 hth
  go_wp2_with fail
  refine bodyPost_ret (results_arr rfl rfl hl9) rfl ?_
  rw[HDG.out]
  exact⟨rfl,m9,cf9⟩
set_option maxRecDepth 100000 in
theorem c_check384(d:Nat)(M:List Nat)(K:List Int)(w:World)(hD:DgAt (blk512 K) 128 v64 145 w d ini384 (i64 48) M)(hK:Blk w 6 241 (K.map v64))(lK:K.length=80)(lM:M.length≤50000) :
 Calls Tryz.prog 191 #[ptr d] w fun e w'=>e=.returned (.agg ((dig384 (stH (blk512 K) 128 ini384 (M++padP512 M.length))).map u8).toArray)∧Mod [d] w w'∧w'.cell? ⟨d,138,none⟩=some (i64 48):=by
 have hD0:=hD
 obtain⟨X,lX,hX,hB⟩:=hD0
 have lh:=st512_length (K:=K) (ini:=ini384) rfl M
 have hdl:=hB.lt
 obtain⟨t,ht⟩:∃t,t=padT512 M.length:=⟨_,rfl⟩
 have htl:=padT512_le M.length
 rw[←ht]at htl
 obtain⟨W0,hW0⟩:∃W0,W0=w.alloc (.cells (List.replicate 64 (u8 0)).toArray 139):=⟨_,rfl⟩
 obtain⟨W1,hW1⟩:∃W1,W1=W0.alloc (.cells (List.replicate 144 (u8 0)).toArray 240):=⟨_,rfl⟩
 obtain⟨r,hr⟩:∃r,r=M.length%128:=⟨_,rfl⟩
 obtain⟨L8,hL8⟩:∃L8,L8=8*M.length:=⟨_,rfl⟩
 obtain⟨n,hn⟩:∃n,n=t+16:=⟨_,rfl⟩
 obtain⟨g2,hg2⟩:∃g2,g2=W0.heap.size:=⟨_,rfl⟩
 have m0:Mod [] w W0:=by rw[hW0];exact(Mod.refl [] w).alloc _
 have m1:Mod [] w W1:=by rw[hW1];exact m0.alloc _
 have hR0:Blk W0 w.heap.size 139 ((List.replicate 64 0).map u8):=by rw[hW0,List.map_replicate];exact Blk.new w _ _
 have hT1:Blk W1 g2 240 ((List.replicate 144 0).map u8):=by rw[hW1,hg2,List.map_replicate];exact Blk.new W0 _ _
 have hg2w:w.heap.size<g2:=by rw[hg2,hW0];simp
 have cl:=DgRow.at_ln (hB.mod m0 (by simp)) lh lX (o:=137) rfl
 have cl1:=DgRow.at_ln (hB.mod m1 (by simp)) lh lX (o:=137) rfl
 have ct:=hT1.at 0 (by simp)
 have ft:=hT1.frozen 0
 obtain⟨W2,hW2⟩:∃W2,W2=W1.setCell ⟨g2,0,none⟩ (.int .u8 128):=⟨_,rfl⟩
 have hT2:Blk W2 g2 240 (((List.replicate 144 0).set 0 128).map u8):=by rw[hW2];exact hT1.set 0 128
 have m2:Mod [] w W2:=by rw[hW2];exact m1.setCell _ _ (fun h=>absurd h (by simp;omega))
 have hR1:Blk W1 w.heap.size 139 ((List.replicate 64 0).map u8):=by rw[hW1];exact hR0.alloc _
 have hR2:Blk W2 w.heap.size 139 ((List.replicate 64 0).map u8):=by rw[hW2];exact hR1.setCell_other _ _ (Nat.ne_of_lt hg2w)
 clear hR0 hR1
 have e1:(M.length:Int)%128=(r:Int):=by omega
 have e2:(M.length:Int).tmod 128=(r:Int):=by rw[Int.tmod_eq_emod_of_nonneg (by omega)];exact e1
 have e3:(M.length:Int)*8=(L8:Int):=by omega
 have e4:(t:Int)+16=(n:Int):=by omega
 have w3:IntKind.u64.wrap (L8:Int)=(L8:Int):=IntWalk.u64_in _ (by omega)
 have w4:IntKind.u64.wrap (n:Int)=(n:Int):=IntWalk.u64_in _ (by omega)
 have w5:IntKind.u64.wrap (t:Int)=(t:Int):=IntWalk.u64_in _ (by omega)
 have hlt8:L8<18446744073709551616:=by omega
 have ht2:(r<112∧(112:Int)-(r:Int)=(t:Int))∨(¬(r:Int)<112∧(240:Int)-(r:Int)=(t:Int)):=by
  have h:=ht
  unfold padT512 at h
  rw[←hr]at h
  split at h
  ·left;omega
  ·right;omega
 have HT:=hide ht
 have HN:=hide hn
 have HL8:=hide hL8
 have HTL:=hide htl
 have HG:=hide hg2w
 clear hr hL8 hn ht hX htl hg2w
 go_enter Tryz.func191,Tryz.ntmps191
 go_upto_region 1 with fail
 refine(?_:Code.wp _ _ _ _ (w.alloc (.cells (List.replicate 64 (u8 0)).toArray 139)))
 rw[←hW0]
 clear hW0
 go_upto_region 3 with fail
 refine(?_:Code.wp _ _ _ _ (W0.alloc (.cells (List.replicate 144 (u8 0)).toArray 240)))
 rw[←hW1,←hg2]
 clear hW1 hg2
 go_upto_region 4 with fail
 rw[←hW2]
 clear hW2 cl ct ft
 go_upto_if 15 with fail
 go_cut [5]from 16 to 21 (fun tv wx=>tv=u64 t∧wx=W2)
 case first=>
  rcases ht2 with⟨hr1,hr2⟩|⟨hr1,hr2⟩
  ·have hr3:(r:Int)<112:=by omega
   go_wp2_with fail
   go_meet
   exact⟨rfl,rfl⟩
  ·go_wp2_with fail
   go_meet
   exact⟨rfl,rfl⟩
 case rest=>
  obtain⟨rfl,rfl⟩:=hcut
  have hn:=HN.out
  have htl:=HTL.out
  have hs9:=fun u=>run_arr_to Tryz.underlying240 (n:=144) (by kernel_rfl) (by kernel_rfl) (by kernel_rfl) .u64 g2 0 n (by omega) (by omega) u
  obtain⟨t8,ht8⟩:∃t8,t8=t+8:=⟨_,rfl⟩
  have e8:(t:Int)+8=(t8:Int):=by omega
  have w8:IntKind.u64.wrap (t8:Int)=(t8:Int):=IntWalk.u64_in _ (by omega)
  have ne1:¬144=t8:=by omega
  have ne2:¬t8=144:=by omega
  have nt:(t8:Int)≤(n:Int):=by omega
  have HT8:=hide ht8
  have PUT:=hide (c_put64_512 g2 t8 (n-(t8)) (144-(t8)) 240 (L8:Int) ((List.replicate 144 0).set 0 128) wc hT2 (by omega) (by simp;omega))
  clear e1 e2 ht2 hn htl hT1 cl1 m1 ht8
  go_wp2_with fail
  refine PUT.out.mono ?_
  rintro e wp ⟨O,rfl,mp,hO,hS⟩
  have mwp:Mod [] w wp:=m2.old mp (Nat.le_of_lt HG.out)
  have hRp:=hR2.mod mp (by have:=HG.out;simp;omega)
  clear hR2
  obtain⟨P,hP⟩:∃P,P=padP512 M.length:=⟨_,rfl⟩
  have hPl:P.length=n:=by rw[hP,padP512_length,←HT.out,HN.out]
  have hOP:∀i,i<n→nth O i=nth P i:=fun i hi=>by
   have h8:=HL8.out
   rw[hP]
   unfold padP512
   rw[nth_cut (by rw[←HT.out];have:=HN.out;omega),Nat.zero_add,hS.out.eq,←HT.out,h8,HT8.out]
   rfl
  have hOl:=hS.out.len
  have WR:=hide (c_Write512 d ini384 (i64 48) M P K g2 0 144 wp (hD.mod mwp (by simp)) rfl (hK.mod mwp (by simp)) lK
   (fun i hi=>by rw[hPl]at hi;rw[Nat.zero_add,hO.at i (by rw[hOl];simp;have:=HN.out;have:=HTL.out;omega),hOP i hi]) (by have:=HG.out;omega) (by have:=HN.out;omega) (by have:=HN.out;have:=HTL.out;omega) (by omega) (by have:=HN.out;have:=HTL.out;omega))
  rw[hPl]at WR
  have HPP:=hide hP
  have HPL:=hide hPl
  clear hP hPl hOP hOl PUT hD hK hO hB
  go_wp2_with fail
  refine WR.out.mono ?_
  rintro e wq ⟨rfl,mq,hq⟩
  clear WR
  obtain⟨X5,lX5,-,hB5⟩:=hq
  have hz:(M++P).length%128=0:=by rw[List.length_append,HPL.out,HN.out];exact HTL.out.2.2
  have hfin:(stH (blk512 K) 128 ini384 (M++P)).length=8:=st512_length rfl _
  rw[hz]at hB5
  obtain⟨h,hh⟩:∃h,h=stH (blk512 K) 128 ini384 (M++P):=⟨_,rfl⟩
  rw[←hh]at hB5 hfin
  have bn5:=DgRow.at_nx hB5 hfin lX5 (o:=136) rfl
  have mwq:Mod [d] w wq:=mwp.then1 mq
  have hRq:=hRp.mod mq (by simp;omega)
  clear hRp
  have HH:=hide hh
  clear hh hz
  obtain⟨W6,hW6⟩:∃W6,W6=wq.alloc (.cells (List.replicate 64 (u8 0)).toArray 139):=⟨_,rfl⟩
  obtain⟨g6,hg6⟩:∃g6,g6=wq.heap.size:=⟨_,rfl⟩
  have m6:Mod [] wq W6:=by rw[hW6];exact(Mod.refl [] wq).alloc _
  have hV0:Blk W6 g6 139 ((List.replicate 64 0).map u8):=by rw[hW6,hg6,List.map_replicate];exact Blk.new wq _ _
  have hB6:=hB5.mod m6 (by simp)
  have hd6:d≠g6:=by have:=hB5.lt;omega
  have hg6w:w.heap.size<g6:=by have:=hRq.lt;omega
  have hR6:=hRq.mod m6 (by simp)
  have mw6:Mod [d] w W6:=mwq.trans m6 (fun _ h _=>h) (by simp)
  go_upto_region 15 with fail
  refine(?_:Code.wp _ _ _ _ (wq.alloc (.cells (List.replicate 64 (u8 0)).toArray 139)))
  rw[←hW6,←hg6]
  clear hW6 hg6 bn5
  have lO0:(List.replicate 64 (0:Nat)).length=64:=List.length_replicate ..
  go_upto_region 15 with fail
  have ch0:=DgRow.at_h hB6 hfin (i:=0) (by omega)
  go_region_with ((go_at_call 193;refine(c_put64_512 g6 0 64 64 139 (ith h 0) _ _ hV0.drew (by omega) (by omega)).mono ?_;rintro e V1 ⟨O1,rfl,n1,hV1,q1⟩))
  have hB7:=hB6.drew.mod n1 (by simpa using hd6)
  have lO1:O1.length=64:=q1.out.len.trans lO0
  have hR7:=hR6.drew.mod n1 (by simp;omega)
  have mw7:Mod [d] w V1:=mw6.drew.trans n1 (fun _ h _=>h) (fun x hx hl=>by simp at hx;omega)
  clear ch0 hB6 hR6 mw6
  go_upto_region 16 with fail
  have ch1:=DgRow.at_h hB7 hfin (i:=1) (by omega)
  go_region_with ((go_at_call 193;refine(c_put64_512 g6 8 56 56 139 (ith h 1) _ _ hV1.drew (by omega) (by omega)).mono ?_;rintro e V2 ⟨O2,rfl,n2,hV2,q2⟩))
  have hB8:=hB7.drew.mod n2 (by simpa using hd6)
  have lO2:O2.length=64:=q2.out.len.trans lO1
  have hR8:=hR7.drew.mod n2 (by simp;omega)
  have mw8:Mod [d] w V2:=mw7.drew.trans n2 (fun _ h _=>h) (fun x hx hl=>by simp at hx;omega)
  clear ch1 hB7 hR7 mw7
  go_upto_region 17 with fail
  have ch2:=DgRow.at_h hB8 hfin (i:=2) (by omega)
  go_region_with ((go_at_call 193;refine(c_put64_512 g6 16 48 48 139 (ith h 2) _ _ hV2.drew (by omega) (by omega)).mono ?_;rintro e V3 ⟨O3,rfl,n3,hV3,q3⟩))
  have hB9:=hB8.drew.mod n3 (by simpa using hd6)
  have lO3:O3.length=64:=q3.out.len.trans lO2
  have hR9:=hR8.drew.mod n3 (by simp;omega)
  have mw9:Mod [d] w V3:=mw8.drew.trans n3 (fun _ h _=>h) (fun x hx hl=>by simp at hx;omega)
  clear ch2 hB8 hR8 mw8
  go_upto_region 18 with fail
  have ch3:=DgRow.at_h hB9 hfin (i:=3) (by omega)
  go_region_with ((go_at_call 193;refine(c_put64_512 g6 24 40 40 139 (ith h 3) _ _ hV3.drew (by omega) (by omega)).mono ?_;rintro e V4 ⟨O4,rfl,n4,hV4,q4⟩))
  have hB10:=hB9.drew.mod n4 (by simpa using hd6)
  have lO4:O4.length=64:=q4.out.len.trans lO3
  have hR10:=hR9.drew.mod n4 (by simp;omega)
  have mw10:Mod [d] w V4:=mw9.drew.trans n4 (fun _ h _=>h) (fun x hx hl=>by simp at hx;omega)
  clear ch3 hB9 hR9 mw9
  go_upto_region 19 with fail
  have ch4:=DgRow.at_h hB10 hfin (i:=4) (by omega)
  go_region_with ((go_at_call 193;refine(c_put64_512 g6 32 32 32 139 (ith h 4) _ _ hV4.drew (by omega) (by omega)).mono ?_;rintro e V5 ⟨O5,rfl,n5,hV5,q5⟩))
  have hB11:=hB10.drew.mod n5 (by simpa using hd6)
  have lO5:O5.length=64:=q5.out.len.trans lO4
  have hR11:=hR10.drew.mod n5 (by simp;omega)
  have mw11:Mod [d] w V5:=mw10.drew.trans n5 (fun _ h _=>h) (fun x hx hl=>by simp at hx;omega)
  clear ch4 hB10 hR10 mw10
  go_upto_region 20 with fail
  have ch5:=DgRow.at_h hB11 hfin (i:=5) (by omega)
  go_region_with ((go_at_call 193;refine(c_put64_512 g6 40 24 24 139 (ith h 5) _ _ hV5.drew (by omega) (by omega)).mono ?_;rintro e V6 ⟨O6,rfl,n6,hV6,q6⟩))
  have hB12:=hB11.drew.mod n6 (by simpa using hd6)
  have lO6:O6.length=64:=q6.out.len.trans lO5
  have hR12:=hR11.drew.mod n6 (by simp;omega)
  have mw12:Mod [d] w V6:=mw11.drew.trans n6 (fun _ h _=>h) (fun x hx hl=>by simp at hx;omega)
  clear ch5 hB11 hR11 mw11
  have cf:=DgRow.at_fl hB12 hfin lX5 (o:=138) rfl
  go_upto_region 24 with fail
  have hlast:dig384 h=O6:=by
   have hx0:O1=_:=q1.out.eq
   have hx1:O2=_:=q2.out.eq
   have hx2:O3=_:=q3.out.eq
   have hx3:O4=_:=q4.out.eq
   have hx4:O5=_:=q5.out.eq
   have hx5:O6=_:=q6.out.eq
   rw[hx5,hx4,hx3,hx2,hx1,hx0]
   rfl
  have hVl:=(hV6.range:World.rangeAt _ g6 0 _)
  have hsz:(Tryz.prog.info? 139).map (·.size)=some (O6.map u8).length:=by rw[List.length_map,lO6];kernel_rfl
  obtain⟨V9,hV9⟩:∃V9,V9=V6.setCells w.heap.size 0 (O6.map u8).toArray.toList:=⟨_,rfl⟩
  have m9:Mod [d] w V9:=by rw[hV9];exact Mod.setCells _ _ mw12 (fun h=>absurd h (Nat.lt_irrefl _))
  have hB9:=hB12.mod (Mod.setCells (S:=[w.heap.size]) (b:=w.heap.size) (O6.map u8).toArray.toList 0 (Mod.refl [w.heap.size] V6) (fun _=>by simp)) (by simp;omega)
  rw[←hV9]at hB9
  have cf9:=DgRow.at_fl hB9 hfin lX5 (o:=138) rfl
  clear hB9
  have hr9:V9.rangeAt w.heap.size 0 (O6.map u8):=by rw[hV9];exact World.rangeAt_setCells_same _ _ _ _ (hR12.there (by simp[lO6]))
  have hl9:=run_loadVar_mid V9 w.heap.size 0 139 (O6.map u8) _ hr9 Tryz.underlying139 rfl hsz
  have HDG:Hid (dig384 (stH (blk512 K) 128 ini384 (M++padP512 M.length))=O6):=hide (by rw[←HPP.out,←HH.out];exact hlast)
  have hth:=hR12.there (n:=(O6.map u8).toArray.size) (by simp[lO6])
  refine wp_region_lit ?_
  refine wpList_load_mid (by rfl) 139 _ (by rfl) g6 0 (by rfl) (O6.map u8) _ hVl Tryz.underlying139 (by rfl) hsz ?_
  refine wpList_store_mid (by rfl) 139 _ _ (by rfl) w.heap.size 0 (O6.map u8).toArray (by rfl) (by rfl) hth (by simpa using hsz) (all_oneCell_toArray (oneCell_map u8 (fun _=>rfl) _)) ?_
  refine wpList_nil ?_
  rw[←hV9]
  clear hlast hV9 hsz hVl hr9 hth
  go_wp2_with fail
  refine bodyPost_ret (results_arr rfl rfl hl9) rfl ?_
  rw[HDG.out]
  exact⟨rfl,m9,cf9⟩
end Go.Proofs.YtfgmnbmnpihjdaaGreatDoor
