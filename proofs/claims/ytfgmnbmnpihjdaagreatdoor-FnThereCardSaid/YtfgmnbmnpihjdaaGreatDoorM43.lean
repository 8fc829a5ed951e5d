/- Lemmas of mine for the walk and its plain laws: SpecPr NumB -/
import Derived.Test.YtfgmnbmnpihjdaaGreatDoorM42
import Derived.Test.YtfgmnbmnpihjdaaGreatDoorM36
import Derived.Test.YtfgmnbmnpihjdaaGreatDoorM24
set_option linter.all false
set_option exponentiation.threshold 7000000
set_option maxHeartbeats 4000000
namespace Go.Proofs.YtfgmnbmnpihjdaaGreatDoor
set_option exponentiation.threshold 7000000
open Go.RowKit
def twoV:Nat→List Int→Nat
 |a,[]=>a
 |a,m::l=>twoV (if m<0 then a+2^m.natAbs else a-2^m.natAbs) l
def twoOk:Nat→List Int→Prop
 |_,[]=>True
 |a,m::l=>a<lim∧m.natAbs≤1000∧(0≤m→2^m.natAbs≤a)∧twoOk (if m<0 then a+2^m.natAbs else a-2^m.natAbs) l
def IntsAt(w:World)(v:Value)(zs:List Int):Prop:=(v=.slice none 0 0∧zs=[])∨∃b c,v=sl b 0 zs.length c∧∀i,∀h:i<zs.length,w.cell? ⟨b,i,none⟩=some (.int .i64 zs[i])
theorem IntsAt.mod{w w':World}{v:Value}{zs:List Int}(h:IntsAt w v zs)(m:Mod [] w w'):IntsAt w' v zs:=by
 rcases h with h|⟨b,c,rfl,h⟩
 ·exact .inl h
 ·exact .inr ⟨b,c,rfl,fun i hi=>cell_up (h i hi) m⟩
theorem two_lim{k:Nat}(h:k≤1000):2^k<lim:=by
 rw[lim_eq,show(65536:Nat)=2^16 by rfl,←Nat.pow_mul]
 exact Nat.pow_lt_pow_right (by omega) (by omega)
set_option maxRecDepth 100000 in
theorem c_two(n:Nat)(v:Value)(zs:List Int)(w:World)(hn:n≤1000)(hv:IntsAt w v zs)(hok:twoOk (2^n) zs)(hl:zs.length≤1000) :
 Calls Tryz.prog 32 #[i64 n,v] w fun e w'=>∃u,e=.returned u∧Mod [] w w'∧NatV w' u (twoV (2^n) zs):=by
 obtain⟨F,hF⟩:∃F,F=twoV (2^n) zs:=⟨_,rfl⟩
 have HF:=hide hF
 rw[←hF]
 have HO:=hide hok
 obtain⟨N,hN⟩:∃N,N=zs.length:=⟨_,rfl⟩
 obtain⟨a,c,rfl⟩:∃a c,v=.slice a zs.length c:=by
  rcases hv with⟨rfl,rfl⟩|⟨b,c,rfl,-⟩
  ·exact⟨_,_,rfl⟩
  ·exact⟨_,_,rfl⟩
 have HV:Hid (∀w' i,Mod [] w w'→i<N→∃b m,a=some ⟨b,0,none⟩∧zs.drop i=m::zs.drop (i+1)∧w'.cell? ⟨b,i,none⟩=some (.int .i64 m)):=hide (by
  intro w' i hm hi
  rcases hv.mod hm with⟨h1,h2⟩|⟨b,c',h1,h2⟩
  ·rw[hN,h2]at hi;simp at hi
  ·simp only[sl,Value.slice.injEq]at h1
   exact⟨b,zs[i]'(by omega),h1.1,List.drop_eq_getElem_cons (by omega),h2 i (by omega)⟩)
 have C:=hide (n_Bit n (by omega) w)
 obtain⟨t0,ht0⟩:∃t,t=2^n:=⟨_,rfl⟩
 rw[←ht0]at HF HO C
 clear ht0
 have HNb:N≤1000:=by omega
 have HND:=hide hN
 rw[←hN]
 clear hF hok hN hv hl hn
 go_enter Tryz.func32,Tryz.ntmps32
 go_wp2_with fail
 refine C.out.mono ?_
 rintro e w1 ⟨v1,rfl,m1,h1⟩
 go_wp2_with fail
 go_loopw [5,12] (fun acc i wr=>∃(k x:Nat) (vv:Value),vv=acc∧i=i64 k∧k≤N∧Mod [] w wr∧NatV wr vv x∧Hid (twoV x (zs.drop k)=F)∧Hid (twoOk x (zs.drop k))) (fun _ i _=>N-(intOf i).toNat)
 case atStart=>exact⟨0,t0,v1,rfl,rfl,by omega,m1,h1,hide (by rw[List.drop_zero,HF.out]),hide (by rw[List.drop_zero];exact HO.out)⟩
 case round=>
  obtain⟨k,x,vv,rfl,rfl,hk,hm,hx,hF,hO⟩:=hrel
  rcases Nat.lt_or_ge k N with hlt|hge
  ·obtain⟨b,m,ha,hd,hc⟩:=HV.out _ k hm hlt
   subst ha
   have hO2:=hO.out
   have hF2:=hF.out
   rw[hd]at hO2 hF2
   obtain⟨lx,lm,hle,hO3⟩:=hO2
   have hF3:twoV (if m<0 then x+2^m.natAbs else x-2^m.natAbs) (zs.drop (k+1))=F:=hF2
   have gk:(k:Int)<(N:Int):=by omega
   by_cases hneg:m<0
   ·rw[if_pos hneg]at hO3 hF3
    obtain⟨j,rfl⟩:∃j:Nat,m = -(j:Int):=⟨m.natAbs,by omega⟩
    rw[Int.natAbs_neg,Int.natAbs_natCast]at hO3 hF3 lm
    have HO3:=hide hO3
    have HF3:=hide hF3
    have CB:=hide (fun w'=>n_Bit j (by omega) w')
    have CA:=hide (fun w' v u (h1:NatV w' v x) (h2:NatV w' u (2^j))=>n_Add v u x (2^j) w' h1 h2 lx (two_lim lm))
    have e1:wrap64 (j:Int)=(j:Int):=by unfold wrap64;omega
    clear hO3 hF3 lx lm hle hd hO hF hF2
    go_wp2_with fail
    refine(CB.out _).mono ?_
    rintro e w2 ⟨v2,rfl,m2,h2⟩
    go_wp2_with fail
    refine(CA.out _ _ _ (hx.mod m2) h2).mono ?_
    rintro e w3 ⟨v3,rfl,m3,h3⟩
    have m03:=(hm.then m2).then m3
    go_wp2_with fail
    go_roundw
    case rel=>exact⟨k+1,_,v3,rfl,by go_num,by omega,m03,h3,HF3,HO3⟩
    case measure=>simp[intOf];omega
   ·rw[if_neg hneg]at hO3 hF3
    obtain⟨j,rfl⟩:∃j:Nat,m=(j:Int):=⟨m.natAbs,by omega⟩
    rw[Int.natAbs_natCast]at hO3 hF3 lm hle
    have HO3:=hide hO3
    have HF3:=hide hF3
    have CB:=hide (fun w'=>n_Bit j (by omega) w')
    have CA:=hide (fun w' v u (h1:NatV w' v x) (h2:NatV w' u (2^j))=>n_Sub v u x (2^j) w' h1 h2 lx (hle (by omega)))
    clear hO3 hF3 lx lm hle hd hO hF hF2
    go_wp2_with fail
    refine(CB.out _).mono ?_
    rintro e w2 ⟨v2,rfl,m2,h2⟩
    go_wp2_with fail
    refine(CA.out _ _ _ (hx.mod m2) h2).mono ?_
    rintro e w3 ⟨v3,rfl,m3,h3⟩
    have m03:=(hm.then m2).then m3
    go_wp2_with fail
    go_roundw
    case rel=>exact⟨k+1,_,v3,rfl,by go_num,by omega,m03,h3,HF3,HO3⟩
    case measure=>simp[intOf];omega
  ·obtain rfl:k=N:=by omega
   have gk:¬(k:Int)<(k:Int):=by omega
   have e0:x=F:=by have:=hF.out;rw[List.drop_of_length_le (by rw[←HND.out];exact Nat.le_refl _)]at this;exact this
   have E0:=hide e0
   clear e0
   go_wp2_with fail
   go_ret
   exact⟨vv,rfl,hm,by rw[←E0.out];exact hx⟩
theorem ints_new(w:World)(zs:List Int):IntsAt (w.alloc (.cells (zs.map (Value.int .i64)).toArray 3)) (sl w.heap.size 0 zs.length zs.length) zs:=by
 refine .inr ⟨_,_,rfl,fun i hi=>?_⟩
 rw[(Blk.new w 3 (zs.map (Value.int .i64))).cell]
 simp[hi]
def xb0:Nat:=2^521
theorem nb0(w:World):Calls Tryz.prog 30 #[i64 521] w fun e w'=>∃v,e=.returned v∧Mod [] w w'∧NatV w' v xb0:=n_Bit 521 (by omega) w
def xp0:Nat:=xb0-1
theorem np0(w:World)(x y:Value)(hx:NatV w x xb0)(hy:NatV w y 1):Calls Tryz.prog 29 #[x,y] w fun e w'=>∃v,e=.returned v∧Mod [] w w'∧NatV w' v xp0:=n_Sub x y xb0 1 w hx hy (Nat.lt_trans (show xb0<2^1000 by decide +kernel) (two_lim (by omega))) (by decide +kernel)
def xb1:Nat:=2^607
theorem nb1(w:World):Calls Tryz.prog 30 #[i64 607] w fun e w'=>∃v,e=.returned v∧Mod [] w w'∧NatV w' v xb1:=n_Bit 607 (by omega) w
def xp1:Nat:=xb1-1
theorem np1(w:World)(x y:Value)(hx:NatV w x xb1)(hy:NatV w y 1):Calls Tryz.prog 29 #[x,y] w fun e w'=>∃v,e=.returned v∧Mod [] w w'∧NatV w' v xp1:=n_Sub x y xb1 1 w hx hy (Nat.lt_trans (show xb1<2^1000 by decide +kernel) (two_lim (by omega))) (by decide +kernel)
def xb2:Nat:=2^255
theorem nb2(w:World):Calls Tryz.prog 30 #[i64 255] w fun e w'=>∃v,e=.returned v∧Mod [] w w'∧NatV w' v xb2:=n_Bit 255 (by omega) w
def xp2:Nat:=xb2-19
theorem np2(w:World)(x y:Value)(hx:NatV w x xb2)(hy:NatV w y 19):Calls Tryz.prog 29 #[x,y] w fun e w'=>∃v,e=.returned v∧Mod [] w w'∧NatV w' v xp2:=n_Sub x y xb2 19 w hx hy (Nat.lt_trans (show xb2<2^1000 by decide +kernel) (two_lim (by omega))) (by decide +kernel)
theorem two_ok3:twoOk (2^256) [224,-192,-96]:=⟨Nat.lt_trans (m:=2^1000) (by decide +kernel) (two_lim (by omega)),by decide,by decide +kernel,⟨Nat.lt_trans (m:=2^1000) (by decide +kernel) (two_lim (by omega)),by decide,by decide +kernel,⟨Nat.lt_trans (m:=2^1000) (by decide +kernel) (two_lim (by omega)),by decide,by decide +kernel,trivial⟩⟩⟩
theorem ia3(w:World):IntsAt (w.alloc (.cells #[.int .i64 (224),.int .i64 (-192),.int .i64 (-96)] 3)) (sl w.heap.size 0 3 3) [224,-192,-96]:=ints_new w [224,-192,-96]
def xb3:Nat:=twoV (2^256) [224,-192,-96]
theorem nb3(w:World)(v:Value)(h:IntsAt w v [224,-192,-96]):Calls Tryz.prog 32 #[i64 256,v] w fun e w'=>∃v,e=.returned v∧Mod [] w w'∧NatV w' v xb3:=c_two 256 _ [224,-192,-96] w (by omega) h two_ok3 (by decide)
def xp3:Nat:=xb3-1
theorem np3(w:World)(x y:Value)(hx:NatV w x xb3)(hy:NatV w y 1):Calls Tryz.prog 29 #[x,y] w fun e w'=>∃v,e=.returned v∧Mod [] w w'∧NatV w' v xp3:=n_Sub x y xb3 1 w hx hy (Nat.lt_trans (show xb3<2^1000 by decide +kernel) (two_lim (by omega))) (by decide +kernel)
theorem two_ok4:twoOk (2^384) [128,96,-32]:=⟨Nat.lt_trans (m:=2^1000) (by decide +kernel) (two_lim (by omega)),by decide,by decide +kernel,⟨Nat.lt_trans (m:=2^1000) (by decide +kernel) (two_lim (by omega)),by decide,by decide +kernel,⟨Nat.lt_trans (m:=2^1000) (by decide +kernel) (two_lim (by omega)),by decide,by decide +kernel,trivial⟩⟩⟩
theorem ia4(w:World):IntsAt (w.alloc (.cells #[.int .i64 (128),.int .i64 (96),.int .i64 (-32)] 3)) (sl w.heap.size 0 3 3) [128,96,-32]:=ints_new w [128,96,-32]
def xb4:Nat:=twoV (2^384) [128,96,-32]
theorem nb4(w:World)(v:Value)(h:IntsAt w v [128,96,-32]):Calls Tryz.prog 32 #[i64 384,v] w fun e w'=>∃v,e=.returned v∧Mod [] w w'∧NatV w' v xb4:=c_two 384 _ [128,96,-32] w (by omega) h two_ok4 (by decide)
def xp4:Nat:=xb4-1
theorem np4(w:World)(x y:Value)(hx:NatV w x xb4)(hy:NatV w y 1):Calls Tryz.prog 29 #[x,y] w fun e w'=>∃v,e=.returned v∧Mod [] w w'∧NatV w' v xp4:=n_Sub x y xb4 1 w hx hy (Nat.lt_trans (show xb4<2^1000 by decide +kernel) (two_lim (by omega))) (by decide +kernel)
theorem two_ok5:twoOk (2^448) [224]:=⟨Nat.lt_trans (m:=2^1000) (by decide +kernel) (two_lim (by omega)),by decide,by decide +kernel,trivial⟩
theorem ia5(w:World):IntsAt (w.alloc (.cells #[.int .i64 (224)] 3)) (sl w.heap.size 0 1 1) [224]:=ints_new w [224]
def xb5:Nat:=twoV (2^448) [224]
theorem nb5(w:World)(v:Value)(h:IntsAt w v [224]):Calls Tryz.prog 32 #[i64 448,v] w fun e w'=>∃v,e=.returned v∧Mod [] w w'∧NatV w' v xb5:=c_two 448 _ [224] w (by omega) h two_ok5 (by decide)
def xp5:Nat:=xb5-1
theorem np5(w:World)(x y:Value)(hx:NatV w x xb5)(hy:NatV w y 1):Calls Tryz.prog 29 #[x,y] w fun e w'=>∃v,e=.returned v∧Mod [] w w'∧NatV w' v xp5:=n_Sub x y xb5 1 w hx hy (Nat.lt_trans (show xb5<2^1000 by decide +kernel) (two_lim (by omega))) (by decide +kernel)
theorem two_ok6:twoOk (2^256) [32]:=⟨Nat.lt_trans (m:=2^1000) (by decide +kernel) (two_lim (by omega)),by decide,by decide +kernel,trivial⟩
theorem ia6(w:World):IntsAt (w.alloc (.cells #[.int .i64 (32)] 3)) (sl w.heap.size 0 1 1) [32]:=ints_new w [32]
def xb6:Nat:=twoV (2^256) [32]
theorem nb6(w:World)(v:Value)(h:IntsAt w v [32]):Calls Tryz.prog 32 #[i64 256,v] w fun e w'=>∃v,e=.returned v∧Mod [] w w'∧NatV w' v xb6:=c_two 256 _ [32] w (by omega) h two_ok6 (by decide)
def xp6:Nat:=xb6-977
theorem np6(w:World)(x y:Value)(hx:NatV w x xb6)(hy:NatV w y 977):Calls Tryz.prog 29 #[x,y] w fun e w'=>∃v,e=.returned v∧Mod [] w w'∧NatV w' v xp6:=n_Sub x y xb6 977 w hx hy (Nat.lt_trans (show xb6<2^1000 by decide +kernel) (two_lim (by omega))) (by decide +kernel)
theorem two_ok7:twoOk (2^224) [96]:=⟨Nat.lt_trans (m:=2^1000) (by decide +kernel) (two_lim (by omega)),by decide,by decide +kernel,trivial⟩
theorem ia7(w:World):IntsAt (w.alloc (.cells #[.int .i64 (96)] 3)) (sl w.heap.size 0 1 1) [96]:=ints_new w [96]
def xb7:Nat:=twoV (2^224) [96]
theorem nb7(w:World)(v:Value)(h:IntsAt w v [96]):Calls Tryz.prog 32 #[i64 224,v] w fun e w'=>∃v,e=.returned v∧Mod [] w w'∧NatV w' v xb7:=c_two 224 _ [96] w (by omega) h two_ok7 (by decide)
def xp7:Nat:=xb7+1
theorem np7(w:World)(x y:Value)(hx:NatV w x xb7)(hy:NatV w y 1):Calls Tryz.prog 33 #[x,y] w fun e w'=>∃v,e=.returned v∧Mod [] w w'∧NatV w' v xp7:=n_Add x y xb7 1 w hx hy (Nat.lt_trans (show xb7<2^1000 by decide +kernel) (two_lim (by omega))) (Nat.lt_trans (show 1<2^1000 by decide +kernel) (two_lim (by omega)))
theorem two_ok8:twoOk (2^192) [64]:=⟨Nat.lt_trans (m:=2^1000) (by decide +kernel) (two_lim (by omega)),by decide,by decide +kernel,trivial⟩
theorem ia8(w:World):IntsAt (w.alloc (.cells #[.int .i64 (64)] 3)) (sl w.heap.size 0 1 1) [64]:=ints_new w [64]
def xb8:Nat:=twoV (2^192) [64]
theorem nb8(w:World)(v:Value)(h:IntsAt w v [64]):Calls Tryz.prog 32 #[i64 192,v] w fun e w'=>∃v,e=.returned v∧Mod [] w w'∧NatV w' v xb8:=c_two 192 _ [64] w (by omega) h two_ok8 (by decide)
def xp8:Nat:=xb8-1
theorem np8(w:World)(x y:Value)(hx:NatV w x xb8)(hy:NatV w y 1):Calls Tryz.prog 29 #[x,y] w fun e w'=>∃v,e=.returned v∧Mod [] w w'∧NatV w' v xp8:=n_Sub x y xb8 1 w hx hy (Nat.lt_trans (show xb8<2^1000 by decide +kernel) (two_lim (by omega))) (by decide +kernel)
def xb9:Nat:=twoV (2^414) []
theorem nb9(w:World):Calls Tryz.prog 32 #[i64 414,.slice none 0 0] w fun e w'=>∃v,e=.returned v∧Mod [] w w'∧NatV w' v xb9:=c_two 414 _ [] w (by omega) (.inl ⟨rfl,rfl⟩) trivial (by decide)
def xp9:Nat:=xb9-17
theorem np9(w:World)(x y:Value)(hx:NatV w x xb9)(hy:NatV w y 17):Calls Tryz.prog 29 #[x,y] w fun e w'=>∃v,e=.returned v∧Mod [] w w'∧NatV w' v xp9:=n_Sub x y xb9 17 w hx hy (Nat.lt_trans (show xb9<2^1000 by decide +kernel) (two_lim (by omega))) (by decide +kernel)
def prs:List Nat:=[xp0,xp1,xp2,xp3,xp4,xp5,xp6,xp7,xp8,xp9]
theorem prs_length:prs.length=10:=rfl
theorem prs_ok:∀p∈prs,2^190<p∧p<2^607∧p%2=1:=by decide +kernel
theorem prs_lim{p:Nat}(h:p∈prs):p<lim:=Nat.lt_trans (prs_ok p h).2.1 (two_lim (by omega))
set_option maxRecDepth 100000 in
theorem c_Primes(w:World):Calls Tryz.prog 13 #[] w fun e w'=>∃g vs,e=.returned (sl g 0 10 10)∧Mod [] w w'∧Blk w' g 25 vs∧vs.length=10∧∀i,i<10→∃v,vs[i]? = some v∧NatV w' v (nth prs i):=by
 have b0:Mod [] w w:=Mod.refl _ _
 go_enter Tryz.func13,Tryz.ntmps13
 go_wp2_with fail
 refine(nb0 _).mono ?_
 rintro e w1 ⟨x0,rfl,mm,hx0⟩
 have bw1:=b0.then mm
 clear mm b0
 go_wp2_with fail
 refine(n_Small 1 (by decide) _).mono ?_
 rintro e w2 ⟨y0,rfl,mm,hy0⟩
 replace hx0:=hx0.mod mm
 have bw2:=bw1.then mm
 clear mm bw1
 go_wp2_with fail
 refine(np0 _ _ _ hx0 hy0).mono ?_
 rintro e w3 ⟨p0,rfl,mm,hp0⟩
 clear hx0 hy0
 obtain⟨a0,k0,c0,rfl⟩:=hp0.lit
 have bw3:=bw2.then mm
 clear mm bw2
 go_wp2_with fail
 refine(nb1 _).mono ?_
 rintro e w4 ⟨x1,rfl,mm,hx1⟩
 replace hp0:=hp0.mod mm
 have bw4:=bw3.then mm
 clear mm bw3
 go_wp2_with fail
 refine(n_Small 1 (by decide) _).mono ?_
 rintro e w5 ⟨y1,rfl,mm,hy1⟩
 replace hp0:=hp0.mod mm
 replace hx1:=hx1.mod mm
 have bw5:=bw4.then mm
 clear mm bw4
 go_wp2_with fail
 refine(np1 _ _ _ hx1 hy1).mono ?_
 rintro e w6 ⟨p1,rfl,mm,hp1⟩
 clear hx1 hy1
 obtain⟨a1,k1,c1,rfl⟩:=hp1.lit
 replace hp0:=hp0.mod mm
 have bw6:=bw5.then mm
 clear mm bw5
 go_wp2_with fail
 refine(nb2 _).mono ?_
 rintro e w7 ⟨x2,rfl,mm,hx2⟩
 replace hp0:=hp0.mod mm
 replace hp1:=hp1.mod mm
 have bw7:=bw6.then mm
 clear mm bw6
 go_wp2_with fail
 refine(n_Small 19 (by decide) _).mono ?_
 rintro e w8 ⟨y2,rfl,mm,hy2⟩
 replace hp0:=hp0.mod mm
 replace hp1:=hp1.mod mm
 replace hx2:=hx2.mod mm
 have bw8:=bw7.then mm
 clear mm bw7
 go_wp2_with fail
 refine(np2 _ _ _ hx2 hy2).mono ?_
 rintro e w9 ⟨p2,rfl,mm,hp2⟩
 clear hx2 hy2
 obtain⟨a2,k2,c2,rfl⟩:=hp2.lit
 replace hp0:=hp0.mod mm
 replace hp1:=hp1.mod mm
 have bw9:=bw8.then mm
 clear mm bw8
 go_wp2_with fail
 refine(nb3 _ _ (ia3 _)).mono ?_
 rintro e w10 ⟨x3,rfl,mm,hx3⟩
 replace mm:=((Mod.refl [] _).alloc _).then mm
 replace hp0:=hp0.mod mm
 replace hp1:=hp1.mod mm
 replace hp2:=hp2.mod mm
 have bw10:=bw9.then mm
 clear mm bw9
 go_wp2_with fail
 refine(n_Small 1 (by decide) _).mono ?_
 rintro e w11 ⟨y3,rfl,mm,hy3⟩
 replace hp0:=hp0.mod mm
 replace hp1:=hp1.mod mm
 replace hp2:=hp2.mod mm
 replace hx3:=hx3.mod mm
 have bw11:=bw10.then mm
 clear mm bw10
 go_wp2_with fail
 refine(np3 _ _ _ hx3 hy3).mono ?_
 rintro e w12 ⟨p3,rfl,mm,hp3⟩
 clear hx3 hy3
 obtain⟨a3,k3,c3,rfl⟩:=hp3.lit
 replace hp0:=hp0.mod mm
 replace hp1:=hp1.mod mm
 replace hp2:=hp2.mod mm
 have bw12:=bw11.then mm
 clear mm bw11
 go_wp2_with fail
 refine(nb4 _ _ (ia4 _)).mono ?_
 rintro e w13 ⟨x4,rfl,mm,hx4⟩
 replace mm:=((Mod.refl [] _).alloc _).then mm
 replace hp0:=hp0.mod mm
 replace hp1:=hp1.mod mm
 replace hp2:=hp2.mod mm
 replace hp3:=hp3.mod mm
 have bw13:=bw12.then mm
 clear mm bw12
 go_wp2_with fail
 refine(n_Small 1 (by decide) _).mono ?_
 rintro e w14 ⟨y4,rfl,mm,hy4⟩
 replace hp0:=hp0.mod mm
 replace hp1:=hp1.mod mm
 replace hp2:=hp2.mod mm
 replace hp3:=hp3.mod mm
 replace hx4:=hx4.mod mm
 have bw14:=bw13.then mm
 clear mm bw13
 go_wp2_with fail
 refine(np4 _ _ _ hx4 hy4).mono ?_
 rintro e w15 ⟨p4,rfl,mm,hp4⟩
 clear hx4 hy4
 obtain⟨a4,k4,c4,rfl⟩:=hp4.lit
 replace hp0:=hp0.mod mm
 replace hp1:=hp1.mod mm
 replace hp2:=hp2.mod mm
 replace hp3:=hp3.mod mm
 have bw15:=bw14.then mm
 clear mm bw14
 go_wp2_with fail
 refine(nb5 _ _ (ia5 _)).mono ?_
 rintro e w16 ⟨x5,rfl,mm,hx5⟩
 replace mm:=((Mod.refl [] _).alloc _).then mm
 replace hp0:=hp0.mod mm
 replace hp1:=hp1.mod mm
 replace hp2:=hp2.mod mm
 replace hp3:=hp3.mod mm
 replace hp4:=hp4.mod mm
 have bw16:=bw15.then mm
 clear mm bw15
 go_wp2_with fail
 refine(n_Small 1 (by decide) _).mono ?_
 rintro e w17 ⟨y5,rfl,mm,hy5⟩
 replace hp0:=hp0.mod mm
 replace hp1:=hp1.mod mm
 replace hp2:=hp2.mod mm
 replace hp3:=hp3.mod mm
 replace hp4:=hp4.mod mm
 replace hx5:=hx5.mod mm
 have bw17:=bw16.then mm
 clear mm bw16
 go_wp2_with fail
 refine(np5 _ _ _ hx5 hy5).mono ?_
 rintro e w18 ⟨p5,rfl,mm,hp5⟩
 clear hx5 hy5
 obtain⟨a5,k5,c5,rfl⟩:=hp5.lit
 replace hp0:=hp0.mod mm
 replace hp1:=hp1.mod mm
 replace hp2:=hp2.mod mm
 replace hp3:=hp3.mod mm
 replace hp4:=hp4.mod mm
 have bw18:=bw17.then mm
 clear mm bw17
 go_wp2_with fail
 refine(nb6 _ _ (ia6 _)).mono ?_
 rintro e w19 ⟨x6,rfl,mm,hx6⟩
 replace mm:=((Mod.refl [] _).alloc _).then mm
 replace hp0:=hp0.mod mm
 replace hp1:=hp1.mod mm
 replace hp2:=hp2.mod mm
 replace hp3:=hp3.mod mm
 replace hp4:=hp4.mod mm
 replace hp5:=hp5.mod mm
 have bw19:=bw18.then mm
 clear mm bw18
 go_wp2_with fail
 refine(n_Small 977 (by decide) _).mono ?_
 rintro e w20 ⟨y6,rfl,mm,hy6⟩
 replace hp0:=hp0.mod mm
 replace hp1:=hp1.mod mm
 replace hp2:=hp2.mod mm
 replace hp3:=hp3.mod mm
 replace hp4:=hp4.mod mm
 replace hp5:=hp5.mod mm
 replace hx6:=hx6.mod mm
 have bw20:=bw19.then mm
 clear mm bw19
 go_wp2_with fail
 refine(np6 _ _ _ hx6 hy6).mono ?_
 rintro e w21 ⟨p6,rfl,mm,hp6⟩
 clear hx6 hy6
 obtain⟨a6,k6,c6,rfl⟩:=hp6.lit
 replace hp0:=hp0.mod mm
 replace hp1:=hp1.mod mm
 replace hp2:=hp2.mod mm
 replace hp3:=hp3.mod mm
 replace hp4:=hp4.mod mm
 replace hp5:=hp5.mod mm
 have bw21:=bw20.then mm
 clear mm bw20
 go_wp2_with fail
 refine(nb7 _ _ (ia7 _)).mono ?_
 rintro e w22 ⟨x7,rfl,mm,hx7⟩
 replace mm:=((Mod.refl [] _).alloc _).then mm
 replace hp0:=hp0.mod mm
 replace hp1:=hp1.mod mm
 replace hp2:=hp2.mod mm
 replace hp3:=hp3.mod mm
 replace hp4:=hp4.mod mm
 replace hp5:=hp5.mod mm
 replace hp6:=hp6.mod mm
 have bw22:=bw21.then mm
 clear mm bw21
 go_wp2_with fail
 refine(n_Small 1 (by decide) _).mono ?_
 rintro e w23 ⟨y7,rfl,mm,hy7⟩
 replace hp0:=hp0.mod mm
 replace hp1:=hp1.mod mm
 replace hp2:=hp2.mod mm
 replace hp3:=hp3.mod mm
 replace hp4:=hp4.mod mm
 replace hp5:=hp5.mod mm
 replace hp6:=hp6.mod mm
 replace hx7:=hx7.mod mm
 have bw23:=bw22.then mm
 clear mm bw22
 go_wp2_with fail
 refine(np7 _ _ _ hx7 hy7).mono ?_
 rintro e w24 ⟨p7,rfl,mm,hp7⟩
 clear hx7 hy7
 obtain⟨a7,k7,c7,rfl⟩:=hp7.lit
 replace hp0:=hp0.mod mm
 replace hp1:=hp1.mod mm
 replace hp2:=hp2.mod mm
 replace hp3:=hp3.mod mm
 replace hp4:=hp4.mod mm
 replace hp5:=hp5.mod mm
 replace hp6:=hp6.mod mm
 have bw24:=bw23.then mm
 clear mm bw23
 go_wp2_with fail
 refine(nb8 _ _ (ia8 _)).mono ?_
 rintro e w25 ⟨x8,rfl,mm,hx8⟩
 replace mm:=((Mod.refl [] _).alloc _).then mm
 replace hp0:=hp0.mod mm
 replace hp1:=hp1.mod mm
 replace hp2:=hp2.mod mm
 replace hp3:=hp3.mod mm
 replace hp4:=hp4.mod mm
 replace hp5:=hp5.mod mm
 replace hp6:=hp6.mod mm
 replace hp7:=hp7.mod mm
 have bw25:=bw24.then mm
 clear mm bw24
 go_wp2_with fail
 refine(n_Small 1 (by decide) _).mono ?_
 rintro e w26 ⟨y8,rfl,mm,hy8⟩
 replace hp0:=hp0.mod mm
 replace hp1:=hp1.mod mm
 replace hp2:=hp2.mod mm
 replace hp3:=hp3.mod mm
 replace hp4:=hp4.mod mm
 replace hp5:=hp5.mod mm
 replace hp6:=hp6.mod mm
 replace hp7:=hp7.mod mm
 replace hx8:=hx8.mod mm
 have bw26:=bw25.then mm
 clear mm bw25
 go_wp2_with fail
 refine(np8 _ _ _ hx8 hy8).mono ?_
 rintro e w27 ⟨p8,rfl,mm,hp8⟩
 clear hx8 hy8
 obtain⟨a8,k8,c8,rfl⟩:=hp8.lit
 replace hp0:=hp0.mod mm
 replace hp1:=hp1.mod mm
 replace hp2:=hp2.mod mm
 replace hp3:=hp3.mod mm
 replace hp4:=hp4.mod mm
 replace hp5:=hp5.mod mm
 replace hp6:=hp6.mod mm
 replace hp7:=hp7.mod mm
 have bw27:=bw26.then mm
 clear mm bw26
 go_wp2_with fail
 refine(nb9 _).mono ?_
 rintro e w28 ⟨x9,rfl,mm,hx9⟩
 replace hp0:=hp0.mod mm
 replace hp1:=hp1.mod mm
 replace hp2:=hp2.mod mm
 replace hp3:=hp3.mod mm
 replace hp4:=hp4.mod mm
 replace hp5:=hp5.mod mm
 replace hp6:=hp6.mod mm
 replace hp7:=hp7.mod mm
 replace hp8:=hp8.mod mm
 have bw28:=bw27.then mm
 clear mm bw27
 go_wp2_with fail
 refine(n_Small 17 (by decide) _).mono ?_
 rintro e w29 ⟨y9,rfl,mm,hy9⟩
 replace hp0:=hp0.mod mm
 replace hp1:=hp1.mod mm
 replace hp2:=hp2.mod mm
 replace hp3:=hp3.mod mm
 replace hp4:=hp4.mod mm
 replace hp5:=hp5.mod mm
 replace hp6:=hp6.mod mm
 replace hp7:=hp7.mod mm
 replace hp8:=hp8.mod mm
 replace hx9:=hx9.mod mm
 have bw29:=bw28.then mm
 clear mm bw28
 go_wp2_with fail
 refine(np9 _ _ _ hx9 hy9).mono ?_
 rintro e w30 ⟨p9,rfl,mm,hp9⟩
 clear hx9 hy9
 obtain⟨a9,k9,c9,rfl⟩:=hp9.lit
 replace hp0:=hp0.mod mm
 replace hp1:=hp1.mod mm
 replace hp2:=hp2.mod mm
 replace hp3:=hp3.mod mm
 replace hp4:=hp4.mod mm
 replace hp5:=hp5.mod mm
 replace hp6:=hp6.mod mm
 replace hp7:=hp7.mod mm
 replace hp8:=hp8.mod mm
 have bw30:=bw29.then mm
 clear mm bw29
 go_wp2_with fail
 go_ret
 refine⟨_,_,rfl,bw30.alloc _,Blk.new w30 _ [.slice a0 k0 c0,.slice a1 k1 c1,.slice a2 k2 c2,.slice a3 k3 c3,.slice a4 k4 c4,.slice a5 k5 c5,.slice a6 k6 c6,.slice a7 k7 c7,.slice a8 k8 c8,.slice a9 k9 c9],rfl,fun i hi=>?_⟩
 rcases (by omega:i=0∨i=1∨i=2∨i=3∨i=4∨i=5∨i=6∨i=7∨i=8∨i=9)with rfl|rfl|rfl|rfl|rfl|rfl|rfl|rfl|rfl|rfl
 ·exact⟨_,rfl,hp0.mod ((Mod.refl [] _).alloc _)⟩
 ·exact⟨_,rfl,hp1.mod ((Mod.refl [] _).alloc _)⟩
 ·exact⟨_,rfl,hp2.mod ((Mod.refl [] _).alloc _)⟩
 ·exact⟨_,rfl,hp3.mod ((Mod.refl [] _).alloc _)⟩
 ·exact⟨_,rfl,hp4.mod ((Mod.refl [] _).alloc _)⟩
 ·exact⟨_,rfl,hp5.mod ((Mod.refl [] _).alloc _)⟩
 ·exact⟨_,rfl,hp6.mod ((Mod.refl [] _).alloc _)⟩
 ·exact⟨_,rfl,hp7.mod ((Mod.refl [] _).alloc _)⟩
 ·exact⟨_,rfl,hp8.mod ((Mod.refl [] _).alloc _)⟩
 ·exact⟨_,rfl,hp9.mod ((Mod.refl [] _).alloc _)⟩
end Go.Proofs.YtfgmnbmnpihjdaaGreatDoor
namespace Go.Proofs.YtfgmnbmnpihjdaaGreatDoor
theorem prime_factor:∀n,1<n→∃q,Prm q∧q∣n:=by
 intro n
 induction n using Nat.strongRecOn with
 |ind n ih=>
  intro h1
  by_cases hp:Prm n
  ·exact⟨n,hp,Nat.dvd_refl n⟩
  ·have:∃d,d∣n∧d≠1∧d≠n:=by
    apply Classical.byContradiction
    intro hno
    exact hp ⟨h1,fun d hd=>by
     by_cases h1:d=1
     ·exact .inl h1
     ·by_cases h2:d=n
      ·exact .inr h2
      ·exact absurd ⟨d,hd,h1,h2⟩ hno⟩
   obtain⟨d,hd,hd1,hdn⟩:=this
   have hle:=Nat.le_of_dvd (by omega) hd
   have hpos:0<d:=Nat.pos_of_dvd_of_pos hd (by omega)
   obtain⟨q,hq,hqd⟩:=ih d (by omega) (by omega)
   exact⟨q,hq,Nat.dvd_trans hqd hd⟩
theorem prime_of_big{n:Nat}(h1:1<n)(h:∀q,Prm q→q∣n→n<q*q):Prm n:=by
 refine⟨h1,fun d hd=>?_⟩
 by_cases hd1:d=1
 ·exact .inl hd1
 ·by_cases hdn:d=n
  ·exact .inr hdn
  ·exfalso
   obtain⟨e,he⟩:=hd
   have hd0:0<d:=Nat.pos_of_ne_zero (fun h0=>by rw[h0,Nat.zero_mul]at he;omega)
   have he0:0<e:=Nat.pos_of_ne_zero (fun h0=>by rw[h0,Nat.mul_zero]at he;omega)
   have he1:e≠1:=fun h0=>by rw[h0,Nat.mul_one]at he;omega
   have key:∀x y,n=x*y→1<x→x≤y→False:=by
    intro x y hxy hx hle
    obtain⟨q,hq,hqx⟩:=prime_factor x hx
    have h2:=h q hq (Nat.dvd_trans hqx ⟨y,hxy⟩)
    have h3:=Nat.le_of_dvd (by omega) hqx
    have h4:q*q≤x*y:=Nat.mul_le_mul h3 (Nat.le_trans h3 hle)
    omega
   rcases Nat.le_total d e with hle|hle
   ·exact key d e he (by omega) hle
   ·exact key e d (by rw[he,Nat.mul_comm]) (by omega) hle
def mpow(n:Nat):Nat→Nat→Nat→Nat
 |0,_,_=>1%n
 |f+1,a,e=>if e%2=0 then mpow n f (a*a%n) (e/2)else a*mpow n f (a*a%n) (e/2)%n
theorem mpow_eq(n:Nat):∀f a e,e<2^f→mpow n f a e=a^e%n
 |0,a,e,h=>by
  have:e=0:=by simpa using h
  subst this
  rfl
 |f+1,a,e,h=>by
  have h2:e/2<2^f:=by rw[Nat.pow_succ]at h;omega
  have ih:=mpow_eq n f (a*a%n) (e/2) h2
  have e1:(a*a%n)^(e/2)%n=a^(2*(e/2))%n:=by rw[←Nat.pow_mod,Nat.pow_mul,Nat.pow_two]
  simp only[mpow]
  rw[ih,e1]
  split
  ·rw[show 2*(e/2)=e by omega]
  ·rw[Nat.mul_mod,Nat.mod_mod,←Nat.mul_mod,Nat.mul_comm,←Nat.pow_succ,show(2*(e/2)).succ=e by omega]
def rowB(N r e a:Nat):Bool:=
 decide (0<e) && decide ((N-1)%r^e=0) && decide (mpow N 700 a (N-1)=1) && decide (Nat.gcd (mpow N 700 a ((N-1)/r)+(N-1)) N=1)
def allP:List (Nat×Nat×Nat)→Prop
 | []=>True
 |(r,_,_)::L=>Prm r∧allP L
def prodL:List (Nat×Nat×Nat)→Nat
 | []=>1
 |(r,e,_)::L=>r^e*prodL L
def rowsB(N:Nat):List (Nat×Nat×Nat)→Bool
 | []=>true
 |(r,e,a)::L=>rowB N r e a && decide (Nat.gcd (r^e) (prodL L)=1) && rowsB N L
def pockB(N:Nat)(L:List (Nat×Nat×Nat)):Bool:=decide (1<N) && decide (N<2^700) && decide (N<(prodL L+1)*(prodL L+1)) && rowsB N L
theorem row_dvd{N r e a q:Nat}(h1:1<N)(h7:N<2^700)(h:rowB N r e a=true)(hr:Prm r)(hq:Prm q)(hqN:q∣N):r^e∣q-1:=by
 simp only[rowB,Bool.and_eq_true,decide_eq_true_eq]at h
 obtain⟨⟨⟨he,hd⟩,hp⟩,hg⟩:=h
 obtain⟨e,rfl⟩:∃e',e=e'+1:=⟨e-1,by omega⟩
 rw[mpow_eq N 700 a _ (by omega)]at hp
 rw[mpow_eq N 700 a _ (Nat.lt_of_le_of_lt (Nat.div_le_self _ _) (by omega))]at hg
 obtain⟨k,hk⟩:=Nat.dvd_of_mod_eq_zero hd
 have hq1:=hq.1
 have ex:=exps_pow (q:=q) (a:=a) hq1
 have hE:a^(r^(e+1)*k)%q=1:=by
  rw[←hk]
  have h2:=Nat.mod_mod_of_dvd (a^(N-1)) hqN
  rw[hp]at h2
  rw[←h2]
  exact Nat.mod_eq_of_lt hq1
 have hdiv:(N-1)/r=r^e*k:=by
  rw[hk,Nat.pow_succ,Nat.mul_comm (r^e) r,Nat.mul_assoc]
  exact Nat.mul_div_cancel_left _ hr.pos
 have hne:¬a^(r^e*k)%q=1:=by
  intro hone
  rw[hdiv]at hg
  have h2:a^(r^e*k)%N%q=1:=by rw[Nat.mod_mod_of_dvd _ hqN];exact hone
  have h3:q∣a^(r^e*k)%N+(N-1):=by
   generalize a^(r^e*k)%N=x at h2
   obtain⟨c,rfl⟩:=hqN
   have h4:=Nat.mod_add_div x q
   rw[h2]at h4
   refine⟨x/q+c,?_⟩
   rw[Nat.mul_add]
   omega
  have h5:=Nat.dvd_gcd h3 hqN
  rw[hg]at h5
  have:=Nat.le_of_dvd (by omega) h5
  omega
 have hm:a^(q-1)%q=1:=by
  refine hq.fermat1 (fun hqa=>?_)
  have h2:a^(r^(e+1)*k)%q=0:=by
   refine Nat.mod_eq_zero_of_dvd (Nat.dvd_trans hqa ?_)
   rw[←hk]
   obtain⟨m,hm⟩:∃m,N-1=m+1:=⟨N-2,by omega⟩
   rw[hm,Nat.pow_succ]
   exact Nat.dvd_mul_left _ _
  omega
 exact ex.order hr hE hne hm
theorem rows_dvd{N q:Nat}(h1:1<N)(h7:N<2^700)(hq:Prm q)(hqN:q∣N):∀L,rowsB N L=true→allP L→prodL L∣q-1
 | [],_,_=>Nat.one_dvd _
 |(r,e,a)::L,h,hp=>by
  simp only[rowsB,Bool.and_eq_true,decide_eq_true_eq]at h
  have h2:=row_dvd h1 h7 h.1.1 hp.1 hq hqN
  have h3:=rows_dvd h1 h7 hq hqN L h.2 hp.2
  exact Nat.Coprime.mul_dvd_of_dvd_of_dvd h.1.2 h2 h3
theorem pock{N:Nat}(L:List (Nat×Nat×Nat))(h:pockB N L=true)(hp:allP L):Prm N:=by
 simp only[pockB,Bool.and_eq_true,decide_eq_true_eq]at h
 obtain⟨⟨⟨h1,h7⟩,hbig⟩,hrows⟩:=h
 refine prime_of_big h1 (fun q hq hqN=>?_)
 have h2:=rows_dvd h1 h7 hq hqN L hrows hp
 have h3:=Nat.le_of_dvd (by have:=hq.1;omega) h2
 have h4:(prodL L+1)*(prodL L+1)≤q*q:=Nat.mul_le_mul (by have:=hq.1;omega) (by have:=hq.1;omega)
 omega
def noDiv(n:Nat):Nat→Bool
 |0=>true
 |f+1=>(decide (f<2) || decide (n%f≠0)) && noDiv n f
theorem noDiv_law{n:Nat}:∀f,noDiv n f=true→∀d,2≤d→d<f→n%d≠0
 |0,_,d,_,h=>by omega
 |f+1,h,d,h2,hd=>by
  simp only[noDiv,Bool.and_eq_true,Bool.or_eq_true,decide_eq_true_eq]at h
  rcases Nat.lt_or_ge d f with hlt|hge
  ·exact noDiv_law f h.2 d h2 hlt
  ·obtain rfl:d=f:=by omega
   rcases h.1 with h3|h3
   ·omega
   ·exact h3
theorem small_prime{n:Nat}(f:Nat)(h1:1<n)(hf:n<f*f)(h:noDiv n f=true):Prm n:=by
 refine prime_of_big h1 (fun q hq hqn=>?_)
 have h2:=hq.1
 rcases Nat.lt_or_ge q f with hlt|hge
 ·exact absurd (Nat.mod_eq_zero_of_dvd hqn) (noDiv_law f h q (by omega) hlt)
 ·have:f*f≤q*q:=Nat.mul_le_mul hge hge
  omega
end Go.Proofs.YtfgmnbmnpihjdaaGreatDoor
