/- Lemmas of mine for the walk and its plain laws: NatI0 NatI1 NatI2 NatI3 NatJ -/
import Derived.Test.YtfgmnbmnpihjdaaGreatDoorM12
set_option linter.all false
set_option maxHeartbeats 4000000
namespace Go.Proofs.YtfgmnbmnpihjdaaGreatDoor
open Go.RowKit
set_option maxRecDepth 4000000 in
theorem c_mont_any(n:Nat)(hn:0<n)(hnb:n≤20000)(g16:((n:Int) == 16)=false)(g24:((n:Int) == 24)=false)(g32:((n:Int) == 32)=false)(x px a pa b pb m y q k:Nat)(odd:Bool)(r:Value)(L R A Ra B Rb M Q:List Nat)(w:World)(hx:NatIs w x px L R)(ha:NatIs w a pa A Ra)(hb:NatIs w b pb B Rb)(hm:MHead w m y odd k r)(hy:NatIs w y q M Q)
 (hal:A.length=n) (hbl:B.length=n) (hml:M.length=n) (wA:Words A) (wB:Words B) (wM:Words M) (hlt0:val A<val M) (hk:(k*nth M 0)%W=W-1) (hyx:y≠x) (hq:q≠px) :
 Calls Tryz.prog 115 #[ptr x,ptr a,ptr b,ptr m] w fun e w'=>
  ∃p' X R',e=.returned (ptr x)∧Mod [x,px] w w'∧NatIs w' x p' X R'∧Kept w px p'∧MontIs X A B M:=by
 have hca:=ha.cell
 have hcb:=hb.cell
 have hcy:=hy.cell
 rw[hal]at hca
 rw[hbl]at hcb
 rw[hml]at hcy
 have hcm:=hm.c0
 have hcapa:=ha.cap;have hcapb:=hb.cap;have hcapy:=hy.cap
 have lx:=hx.xlt;have lpx:=hx.plt;have lpa:=ha.plt;have lpb:=hb.plt;have lq:=hy.plt;have lm:=hm.lt;have ly:=hy.xlt
 have HA:=hide hal;have HB:=hide hbl;have HM:=hide hml
 have HK:=hide hk
 clear hal hbl hml hk
 obtain⟨c,hc⟩:∃c:Nat,c=max 64 (2*n):=⟨_,rfl⟩
 have HC:=hide hc
 have hmk1:∀w,(Instr.makeSlice 50 (.int .i64 0) (.int .i64 64)).run Tryz.prog w=.ok (sl w.heap.size 0 0 64) (w.alloc (.cells ((zrow 64).map u64).toArray 51)):=make_uint 0 64 (by omega) (by omega)
 have hmk2:=make_uint 0 (2*n) (by omega) (by omega)
 have hmk2':∀w,(Instr.makeSlice 50 (.int .i64 0) (.int .i64 ((n:Int)*2))).run Tryz.prog w=.ok (sl w.heap.size 0 0 (2*n)) (w.alloc (.cells ((zrow (2*n)).map u64).toArray 51)):=by
  intro w
  have:=hmk2 w
  rw[show(((2*n:Nat)):Int)=(n:Int)*2 by omega]at this
  exact this
 clear hmk2
 generalize hr1:((zrow 64).map u64).toArray=row1 at hmk1
 generalize hr2:((zrow (2*n)).map u64).toArray=row2 at hmk2'
 have HR1:=hide hr1;have HR2:=hide hr2
 clear hr1 hr2
 have hmk1':∀w,(Instr.makeSlice 50 (.int .i64 0) (.int .i64 64)).run Tryz.prog w=.ok (sl w.heap.size 0 0 64) (w.alloc (.cells row1 51)):=hmk1
 clear hmk1
 by_cases hbig:64<2*n
 ·obtain rfl:c=2*n:=by omega
  clear hc
  have hdec:decide ((64:Int)<(n:Int)*2)=true:=by simp;omega
  have hT:Blk ((w.alloc (.cells row1 51)).alloc (.cells row2 51)) (w.heap.size+1) 51 ((zrow (2*n)).map u64):=by
   rw[←HR2.out]
   have:=Blk.new (w.alloc (.cells row1 51)) 51 ((zrow (2*n)).map u64)
   simpa using this
  have hM0:Mod [] w ((w.alloc (.cells row1 51)).alloc (.cells row2 51)):=((Mod.refl [] w).alloc _).alloc _
  go_enter Tryz.func115,Tryz.ntmps115
  go_wp2_with fail
  go_loopw [14,15] (fun c i wr=>∃j:Nat,j≤n∧i=i64 j∧c=u64 (mCar (zrow (2*n)) A B M k n j)∧Mod [] w wr∧Blk wr (w.heap.size+1) 51 ((mRow (zrow (2*n)) A B M k n j).map u64)) (fun _ i _=>n-(intOf i).toNat)
  case atStart=>exact⟨0,Nat.zero_le _,rfl,rfl,hM0,hT⟩
  case round=>
   obtain⟨j,hj,rfl,rfl,hmod,hTj⟩:=hrel
   have ha0:=ha.mod hmod (by simp) (by simp)
   have hy0:=hy.mod hmod (by simp) (by simp)
   have hx0:=hx.mod hmod (by simp) (by simp)
   have hm0:MHead wr m y odd k r:=Blk.mod hm hmod (by simp)
   have zl:(mRow (zrow (2*n)) A B M k n j).length=(2*n):=by rw[mRow_length,zrow_length]
   by_cases hlt:j<n
   ·have hb1:wr.cell? ⟨pb,j,none⟩=some (u64 (nth B j)):=(hb.mod hmod (by simp) (by simp)).at j (by rw[HB.out];exact hlt)
    have ht1:wr.cell? ⟨(w.heap.size+1),n+j,none⟩=some (u64 (nth (mRow (zrow (2*n)) A B M k n j) (n+j))):=hTj.at (n+j) (by rw[zl];omega)
    have hcj:¬(2*n)=j:=by omega
    have hcar:=mCar_le (Z:=(zrow (2*n))) (A:=A) (B:=B) (M:=M) (k:=k) (n:=n) j
    clear zl
    go_wp2_with fail
    refine(c_mul1 (k:=k) (M:=M) (w.heap.size+1) a pa _ _ _ hTj ha0 (by omega) HA.out (by omega) (by rw[zrow_length];omega) (zrow_words _) wA wB (by rw[zrow_length];omega)).mono ?_
    rintro e w1 ⟨rfl,m1,hT1⟩
    have hm1':MHead w1 m y odd k r:=Blk.mod hm0 m1 (by simp<;>omega)
    have hck:=hm1'.c2
    have hy1:=hy0.mod m1 (by simp<;>omega) (by simp<;>omega)
    have ht2:w1.cell? ⟨(w.heap.size+1),j,none⟩=some (u64 (nth (mRow1 (zrow (2*n)) A B M k n j) j)):=hT1.at j (by rw[mRow1_length,zrow_length];omega)
    have hY:=mY_word (Z:=(zrow (2*n))) (A:=A) (B:=B) (M:=M) (k:=k) (n:=n) (j:=j)
    clear ht1 hb1
    go_wp2_with fail
    go_quiet (fail)
    go_wp2_with fail
    refine(c_mul2 (w.heap.size+1) y q _ _ _ (hT1.drewN nq) (hy1.drewN nq) (by omega) HM.out (by omega) (by rw[zrow_length];omega) (zrow_words _) wM (by rw[zrow_length];omega)).mono ?_
    rintro e w2 ⟨rfl,m2,hT2⟩
    have ht3:w2.cell? ⟨(w.heap.size+1),n+j,none⟩=some (u64 (nth (mRow2 (zrow (2*n)) A B M k n j) (n+j))):=hT2.at (n+j) (by rw[mRow2_length,zrow_length];omega)
    have hf3:=hT2.frozen (n+j)
    have hm3:Mod [] w (w2.setCell ⟨(w.heap.size+1),n+j,none⟩ (u64 (addLo (mCar1 (zrow (2*n)) A B M k n j) (mCar2 (zrow (2*n)) A B M k n j) (mCar (zrow (2*n)) A B M k n j)))):=
     (Mod.trans (U:=[]) hmod (Mod.trans (U:=[(w.heap.size+1)]) m1 m2.ofDrewN (by simp) (by simp)) (by simp) (by simp<;>omega)).setCell _ _ (by simp<;>omega)
    have hT3:=row_next hT2
    clear hmod m1 m2 hTj hT1 hT2 ht2 hck hY
    go_wp2_with fail
    refine(c_Add _ _ _ hcar _).mono ?_;rintro e w' ⟨rfl,rfl⟩
    go_wp2_with fail
    go_roundw
    case rel=>exact⟨j+1,by omega,by go_num,rfl,hm3,hT3⟩
    case measure=>simp[intOf];omega
   ·obtain rfl:n=j:=by omega
    have hcar:=mCar_le (Z:=(zrow (2*n))) (A:=A) (B:=B) (M:=M) (k:=k) (n:=n) n
    have hg1:¬(2*n)=n:=by omega
    have hmx:m≠x:=Blk.ne hm hx.head (by decide)
    have hmp:m≠px:=Blk.ne hm hx.row (by decide)
    have hyp:y≠px:=hy.head.ne hx.row (by decide)
    have hqx:q≠x:=hy.row.ne hx.head (by decide)
    have hPl:(piece (mRow (zrow (2*n)) A B M k n n) n n).length=n:=piece_length (by rw[mRow_length,zrow_length];omega)
    have HPl:=hide hPl
    clear hPl
    go_wp2_with fail
    go_region_with ((go_at_call 130;refine(c_reset x px n L R _ hx0.drew (by omega)).mono ?_;rintro e w5 ⟨p5,R5,rfl,m5,hx5,k5⟩;have hT5:Blk w5 (w.heap.size+1) 51 _:=hTj.drew.mod m5 (by simp<;>omega);obtain⟨w6,hcp,m6,hx6⟩:=copy_nat_off (M:=piece (mRow (zrow (2*n)) A B M k n n) n n) hx5 hT5 (by rw[HPl.out];simp) (by rw[HPl.out,mRow_length,zrow_length];omega) (fun j hj=>(piece_nth (by rw[HPl.out]at hj;exact hj)).symm) (n+R5.length) ((2*n)-n) (n*2-n) (by rw[HPl.out];omega) 50;have hc5:=hx5.cell;rw[HPl.out]at hcp;simp only[List.length_replicate]at hcp hc5))
    all_goals
     have M06:Mod [x,px] w w6:=Mod.trans (U:=[x,px]) (Mod.trans (U:=[x,px]) hmod m5.ofDrew (by simp) (by simp)) m6 (fun a ha _=>ha) (fun a ha hl=>by
      have h0:=hmod.size
      rcases k5 with h|h
      ·simp at ha;simp[ha,h]
      ·simp at ha;simp at h;omega)
     have kk:Kept w px p5:=by
      have h0:=hmod.size
      rcases k5 with h|h
      ·exact .inl h
      ·simp at h;exact .inr (by omega)
     have hm6:MHead w6 m y odd k r:=Blk.mod hm M06 (by simp<;>omega)
     have hy6:=hy.mod M06 (by simp<;>omega) (by simp<;>omega)
     clear m5 m6 k5 hcp hc5 hT5 hx5
     go_wp2_with fail
     refine(c_maybeSub x p5 m y q k _ odd r _ R5 M Q _ hx6 hm6 hy6 (piece_words (mRow_words (zrow_words _) _) _ _) wM (by rw[HPl.out];exact HM.out) hcar
      (by have h:=mont_bound (c:=(2*n)) (k:=k) wA wB wM (by rw[HM.out];omega) (by rw[HM.out];exact HA.out) HK.out (by rw[HM.out];omega) hlt0;rw[HM.out]at h;rw[HPl.out];exact h)).mono ?_
     rintro e w7 ⟨L',rfl,m7,hx7,hbe,hv⟩
     have hfin:MontIs L' A B M:=mont_done (c:=(2*n)) (k:=k) wA wB wM (by rw[HM.out];omega) (by rw[HM.out];exact HA.out) (by rw[HM.out];exact HB.out) HK.out (by rw[HM.out];omega) hbe
      (by rw[HPl.out]at hv;rw[HM.out];exact hv)
     have M07:Mod [x,px] w w7:=Mod.trans (U:=[x,px]) M06 m7 (fun a ha _=>ha) (fun a ha hl=>by
      rcases kk with h|h
      ·simp at ha;simp[ha,h]
      ·simp at ha;omega)
     clear hv hx6 hm6 hy6 M06 m7 hbe
     go_wp2_with fail
     go_ret
     exact⟨p5,L',R5,rfl,M07,hx7,kk,hfin⟩
 ·obtain rfl:c=64:=by omega
  clear hc
  have hdec:decide ((64:Int)<(n:Int)*2)=false:=by simp;omega
  have hT:Blk (w.alloc (.cells row1 51)) w.heap.size 51 ((zrow 64).map u64):=by
   rw[←HR1.out]
   exact Blk.new w _ _
  have hM0:Mod [] w (w.alloc (.cells row1 51)):=(Mod.refl [] w).alloc _
  go_enter Tryz.func115,Tryz.ntmps115
  go_wp2_with fail
  go_loopw [14,15] (fun c i wr=>∃j:Nat,j≤n∧i=i64 j∧c=u64 (mCar (zrow 64) A B M k n j)∧Mod [] w wr∧Blk wr w.heap.size 51 ((mRow (zrow 64) A B M k n j).map u64)) (fun _ i _=>n-(intOf i).toNat)
  case atStart=>exact⟨0,Nat.zero_le _,rfl,rfl,hM0,hT⟩
  case round=>
   obtain⟨j,hj,rfl,rfl,hmod,hTj⟩:=hrel
   have ha0:=ha.mod hmod (by simp) (by simp)
   have hy0:=hy.mod hmod (by simp) (by simp)
   have hx0:=hx.mod hmod (by simp) (by simp)
   have hm0:MHead wr m y odd k r:=Blk.mod hm hmod (by simp)
   have zl:(mRow (zrow 64) A B M k n j).length=64:=by rw[mRow_length,zrow_length]
   by_cases hlt:j<n
   ·have hb1:wr.cell? ⟨pb,j,none⟩=some (u64 (nth B j)):=(hb.mod hmod (by simp) (by simp)).at j (by rw[HB.out];exact hlt)
    have ht1:wr.cell? ⟨w.heap.size,n+j,none⟩=some (u64 (nth (mRow (zrow 64) A B M k n j) (n+j))):=hTj.at (n+j) (by rw[zl];omega)
    have hcj:¬64=j:=by omega
    have hcar:=mCar_le (Z:=(zrow 64)) (A:=A) (B:=B) (M:=M) (k:=k) (n:=n) j
    clear zl
    go_wp2_with fail
    refine(c_mul1 (k:=k) (M:=M) w.heap.size a pa _ _ _ hTj ha0 (by omega) HA.out (by omega) (by rw[zrow_length];omega) (zrow_words _) wA wB (by rw[zrow_length];omega)).mono ?_
    rintro e w1 ⟨rfl,m1,hT1⟩
    have hm1':MHead w1 m y odd k r:=Blk.mod hm0 m1 (by simp<;>omega)
    have hck:=hm1'.c2
    have hy1:=hy0.mod m1 (by simp<;>omega) (by simp<;>omega)
    have ht2:w1.cell? ⟨w.heap.size,j,none⟩=some (u64 (nth (mRow1 (zrow 64) A B M k n j) j)):=hT1.at j (by rw[mRow1_length,zrow_length];omega)
    have hY:=mY_word (Z:=(zrow 64)) (A:=A) (B:=B) (M:=M) (k:=k) (n:=n) (j:=j)
    clear ht1 hb1
    go_wp2_with fail
    go_quiet (fail)
    go_wp2_with fail
    refine(c_mul2 w.heap.size y q _ _ _ (hT1.drewN nq) (hy1.drewN nq) (by omega) HM.out (by omega) (by rw[zrow_length];omega) (zrow_words _) wM (by rw[zrow_length];omega)).mono ?_
    rintro e w2 ⟨rfl,m2,hT2⟩
    have ht3:w2.cell? ⟨w.heap.size,n+j,none⟩=some (u64 (nth (mRow2 (zrow 64) A B M k n j) (n+j))):=hT2.at (n+j) (by rw[mRow2_length,zrow_length];omega)
    have hf3:=hT2.frozen (n+j)
    have hm3:Mod [] w (w2.setCell ⟨w.heap.size,n+j,none⟩ (u64 (addLo (mCar1 (zrow 64) A B M k n j) (mCar2 (zrow 64) A B M k n j) (mCar (zrow 64) A B M k n j)))):=
     (Mod.trans (U:=[]) hmod (Mod.trans (U:=[w.heap.size]) m1 m2.ofDrewN (by simp) (by simp)) (by simp) (by simp<;>omega)).setCell _ _ (by simp<;>omega)
    have hT3:=row_next hT2
    clear hmod m1 m2 hTj hT1 hT2 ht2 hck hY
    go_wp2_with fail
    refine(c_Add _ _ _ hcar _).mono ?_;rintro e w' ⟨rfl,rfl⟩
    go_wp2_with fail
    go_roundw
    case rel=>exact⟨j+1,by omega,by go_num,rfl,hm3,hT3⟩
    case measure=>simp[intOf];omega
   ·obtain rfl:n=j:=by omega
    have hcar:=mCar_le (Z:=(zrow 64)) (A:=A) (B:=B) (M:=M) (k:=k) (n:=n) n
    have hg1:¬64=n:=by omega
    have hmx:m≠x:=Blk.ne hm hx.head (by decide)
    have hmp:m≠px:=Blk.ne hm hx.row (by decide)
    have hyp:y≠px:=hy.head.ne hx.row (by decide)
    have hqx:q≠x:=hy.row.ne hx.head (by decide)
    have hPl:(piece (mRow (zrow 64) A B M k n n) n n).length=n:=piece_length (by rw[mRow_length,zrow_length];omega)
    have HPl:=hide hPl
    clear hPl
    go_wp2_with fail
    go_region_with ((go_at_call 130;refine(c_reset x px n L R _ hx0.drew (by omega)).mono ?_;rintro e w5 ⟨p5,R5,rfl,m5,hx5,k5⟩;have hT5:Blk w5 w.heap.size 51 _:=hTj.drew.mod m5 (by simp<;>omega);obtain⟨w6,hcp,m6,hx6⟩:=copy_nat_off (M:=piece (mRow (zrow 64) A B M k n n) n n) hx5 hT5 (by rw[HPl.out];simp) (by rw[HPl.out,mRow_length,zrow_length];omega) (fun j hj=>(piece_nth (by rw[HPl.out]at hj;exact hj)).symm) (n+R5.length) (64-n) (n*2-n) (by rw[HPl.out];omega) 50;have hc5:=hx5.cell;rw[HPl.out]at hcp;simp only[List.length_replicate]at hcp hc5))
    all_goals
     have M06:Mod [x,px] w w6:=Mod.trans (U:=[x,px]) (Mod.trans (U:=[x,px]) hmod m5.ofDrew (by simp) (by simp)) m6 (fun a ha _=>ha) (fun a ha hl=>by
      have h0:=hmod.size
      rcases k5 with h|h
      ·simp at ha;simp[ha,h]
      ·simp at ha;simp at h;omega)
     have kk:Kept w px p5:=by
      have h0:=hmod.size
      rcases k5 with h|h
      ·exact .inl h
      ·simp at h;exact .inr (by omega)
     have hm6:MHead w6 m y odd k r:=Blk.mod hm M06 (by simp<;>omega)
     have hy6:=hy.mod M06 (by simp<;>omega) (by simp<;>omega)
     clear m5 m6 k5 hcp hc5 hT5 hx5
     go_wp2_with fail
     refine(c_maybeSub x p5 m y q k _ odd r _ R5 M Q _ hx6 hm6 hy6 (piece_words (mRow_words (zrow_words _) _) _ _) wM (by rw[HPl.out];exact HM.out) hcar
      (by have h:=mont_bound (c:=64) (k:=k) wA wB wM (by rw[HM.out];omega) (by rw[HM.out];exact HA.out) HK.out (by rw[HM.out];omega) hlt0;rw[HM.out]at h;rw[HPl.out];exact h)).mono ?_
     rintro e w7 ⟨L',rfl,m7,hx7,hbe,hv⟩
     have hfin:MontIs L' A B M:=mont_done (c:=64) (k:=k) wA wB wM (by rw[HM.out];omega) (by rw[HM.out];exact HA.out) (by rw[HM.out];exact HB.out) HK.out (by rw[HM.out];omega) hbe
      (by rw[HPl.out]at hv;rw[HM.out];exact hv)
     have M07:Mod [x,px] w w7:=Mod.trans (U:=[x,px]) M06 m7 (fun a ha _=>ha) (fun a ha hl=>by
      rcases kk with h|h
      ·simp at ha;simp[ha,h]
      ·simp at ha;omega)
     clear hv hx6 hm6 hy6 M06 m7 hbe
     go_wp2_with fail
     go_ret
     exact⟨p5,L',R5,rfl,M07,hx7,kk,hfin⟩
set_option maxRecDepth 4000000 in
theorem c_mont16(x px a pa b pb m y q k:Nat)(odd:Bool)(r:Value)(L R A Ra B Rb M Q:List Nat)(w:World)(hx:NatIs w x px L R)(ha:NatIs w a pa A Ra)(hb:NatIs w b pb B Rb)(hm:MHead w m y odd k r)(hy:NatIs w y q M Q)
 (hal:A.length=16) (hbl:B.length=16) (hml:M.length=16) (wA:Words A) (wB:Words B) (wM:Words M) (hlt0:val A<val M) (hk:(k*nth M 0)%W=W-1) (hyx:y≠x) (hq:q≠px) :
 Calls Tryz.prog 115 #[ptr x,ptr a,ptr b,ptr m] w fun e w'=>
  ∃p' X R',e=.returned (ptr x)∧Mod [x,px] w w'∧NatIs w' x p' X R'∧Kept w px p'∧MontIs X A B M:=by
 have hca:=ha.cell
 have hcb:=hb.cell
 have hcy:=hy.cell
 rw[hal]at hca
 rw[hbl]at hcb
 rw[hml]at hcy
 have hcm:=hm.c0
 have hcapa:=ha.cap;have hcapb:=hb.cap;have hcapy:=hy.cap
 have lx:=hx.xlt;have lpx:=hx.plt;have lpa:=ha.plt;have lpb:=hb.plt;have lq:=hy.plt;have lm:=hm.lt;have ly:=hy.xlt
 have HA:=hide hal;have HB:=hide hbl;have HM:=hide hml
 have HK:=hide hk
 clear hal hbl hml hk
 obtain⟨c,hc⟩:∃c:Nat,c=32:=⟨_,rfl⟩
 have HC:=hide hc
 have hmk:∀w,(Instr.makeSlice 50 (.int .i64 32) (.int .i64 32)).run Tryz.prog w=.ok (sl w.heap.size 0 32 32) (w.alloc (.cells ((zrow 32).map u64).toArray 51)):=make_uint 32 32 (by omega) (by omega)
 generalize hr1:((zrow 32).map u64).toArray=row1 at hmk
 have hT:Blk (w.alloc (.cells row1 51)) w.heap.size 51 ((zrow 32).map u64):=by
  rw[←hr1]
  exact Blk.new w _ _
 have hM0:Mod [] w (w.alloc (.cells row1 51)):=(Mod.refl [] w).alloc _
 clear hr1 hc HC
 go_enter Tryz.func115,Tryz.ntmps115
 go_wp2_with fail
 go_loopw [21,22] (fun c i wr=>∃j:Nat,j≤16∧i=i64 j∧c=u64 (mCar (zrow 32) A B M k 16 j)∧Mod [] w wr∧Blk wr w.heap.size 51 ((mRow (zrow 32) A B M k 16 j).map u64)) (fun _ i _=>16-(intOf i).toNat)
 case atStart=>exact⟨0,Nat.zero_le _,rfl,rfl,hM0,hT⟩
 case round=>
  obtain⟨j,hj,rfl,rfl,hmod,hTj⟩:=hrel
  have ha0:=ha.mod hmod (by simp) (by simp)
  have hy0:=hy.mod hmod (by simp) (by simp)
  have hx0:=hx.mod hmod (by simp) (by simp)
  have hm0:MHead wr m y odd k r:=Blk.mod hm hmod (by simp)
  have zl:(mRow (zrow 32) A B M k 16 j).length=32:=by rw[mRow_length,zrow_length]
  by_cases hlt:j<16
  ·have hb1:wr.cell? ⟨pb,j,none⟩=some (u64 (nth B j)):=(hb.mod hmod (by simp) (by simp)).at j (by rw[HB.out];exact hlt)
   have ht1:wr.cell? ⟨w.heap.size,16+j,none⟩=some (u64 (nth (mRow (zrow 32) A B M k 16 j) (16+j))):=hTj.at (16+j) (by rw[zl];omega)
   have hcj:¬32=j:=by omega
   have hcar:=mCar_le (Z:=(zrow 32)) (A:=A) (B:=B) (M:=M) (k:=k) (n:=16) j
   clear zl
   have hs1:IntKind.i64.wrap ((j:Int)+16)=(j:Int)+16:=IntWalk.i64_in _ (by omega)
   have hs2:0≤(j:Int)+16:=by omega
   have hs3:((j:Int)+16).toNat=j+16:=by omega
   have hs4:(j:Int)≤(j:Int)+16:=by omega
   have hs5:(j:Int)+16≤32:=by omega
   have hs6:(j:Int)<32:=by omega
   go_wp2_with fail
   go_region_with ((go_at_call 126;refine(c_mul1 (k:=k) (M:=M) w.heap.size a pa _ _ _ hTj.drew ha0.drew (by omega) HA.out (by omega) (by rw[zrow_length];omega) (zrow_words _) wA wB (by rw[zrow_length];omega)).mono ?_;rintro e w1 ⟨rfl,m1',hT1⟩;have m1:=m1'.ofDrew;clear m1'))
   have hm1':MHead w1 m y odd k r:=Blk.mod hm0 m1 (by simp<;>omega)
   have hck:=hm1'.c2
   have hy1:=hy0.mod m1 (by simp<;>omega) (by simp<;>omega)
   have ht2:w1.cell? ⟨w.heap.size,j,none⟩=some (u64 (nth (mRow1 (zrow 32) A B M k 16 j) j)):=hT1.at j (by rw[mRow1_length,zrow_length];omega)
   have hY:=mY_word (Z:=(zrow 32)) (A:=A) (B:=B) (M:=M) (k:=k) (n:=16) (j:=j)
   clear ht1 hb1
   go_wp2_with fail
   go_quiet (fail)
   go_wp2_with fail
   go_region_with ((go_at_call 126;refine(c_mul2 w.heap.size y q _ _ _ (hT1.drewN nq).drew (hy1.drewN nq).drew (by omega) HM.out (by omega) (by rw[zrow_length];omega) (zrow_words _) wM (by rw[zrow_length];omega)).mono ?_;rintro e w2 ⟨rfl,m2',hT2⟩;have m2:=m2'.ofDrew;clear m2'))
   have ht3:w2.cell? ⟨w.heap.size,16+j,none⟩=some (u64 (nth (mRow2 (zrow 32) A B M k 16 j) (16+j))):=hT2.at (16+j) (by rw[mRow2_length,zrow_length];omega)
   have hf3:=hT2.frozen (16+j)
   have hm3:Mod [] w (w2.setCell ⟨w.heap.size,16+j,none⟩ (u64 (addLo (mCar1 (zrow 32) A B M k 16 j) (mCar2 (zrow 32) A B M k 16 j) (mCar (zrow 32) A B M k 16 j)))):=
    (Mod.trans (U:=[]) hmod (Mod.trans (U:=[w.heap.size]) m1 m2.ofDrewN (by simp) (by simp)) (by simp) (by simp<;>omega)).setCell _ _ (by simp<;>omega)
   have hT3:=row_next hT2
   clear hmod m1 m2 hTj hT1 hT2 ht2 hck hY
   go_wp2_with fail
   refine(c_Add _ _ _ hcar _).mono ?_;rintro e w' ⟨rfl,rfl⟩
   go_wp2_with fail
   go_roundw
   case rel=>exact⟨j+1,by omega,by go_num,rfl,hm3,hT3⟩
   case measure=>simp[intOf];omega
  ·obtain rfl:16=j:=by omega
   have hcar:=mCar_le (Z:=(zrow 32)) (A:=A) (B:=B) (M:=M) (k:=k) (n:=16) 16
   have hg1:¬32=16:=by omega
   have hmx:m≠x:=Blk.ne hm hx.head (by decide)
   have hmp:m≠px:=Blk.ne hm hx.row (by decide)
   have hyp:y≠px:=hy.head.ne hx.row (by decide)
   have hqx:q≠x:=hy.row.ne hx.head (by decide)
   have hPl:(piece (mRow (zrow 32) A B M k 16 16) 16 16).length=16:=piece_length (by rw[mRow_length,zrow_length];omega)
   have HPl:=hide hPl
   clear hPl
   go_wp2_with fail
   go_region_with ((go_at_call 130;refine(c_reset x px 16 L R _ hx0.drew (by omega)).mono ?_;rintro e w5 ⟨p5,R5,rfl,m5,hx5,k5⟩;have hT5:Blk w5 w.heap.size 51 _:=hTj.drew.mod m5 (by simp<;>omega);obtain⟨w6,hcp,m6,hx6⟩:=copy_nat_off (M:=piece (mRow (zrow 32) A B M k 16 16) 16 16) hx5 hT5 (by rw[HPl.out];simp) (by rw[HPl.out,mRow_length,zrow_length];omega) (fun j hj=>(piece_nth (by rw[HPl.out]at hj;exact hj)).symm) (16+R5.length) (32-16) (16) (by rw[HPl.out];omega) 50;have hc5:=hx5.cell;rw[HPl.out]at hcp;simp only[List.length_replicate]at hcp hc5))
   all_goals
    have M06:Mod [x,px] w w6:=Mod.trans (U:=[x,px]) (Mod.trans (U:=[x,px]) hmod m5.ofDrew (by simp) (by simp)) m6 (fun a ha _=>ha) (fun a ha hl=>by
     have h0:=hmod.size
     rcases k5 with h|h
     ·simp at ha;simp[ha,h]
     ·simp at ha;simp at h;omega)
    have kk:Kept w px p5:=by
     have h0:=hmod.size
     rcases k5 with h|h
     ·exact .inl h
     ·simp at h;exact .inr (by omega)
    have hm6:MHead w6 m y odd k r:=Blk.mod hm M06 (by simp<;>omega)
    have hy6:=hy.mod M06 (by simp<;>omega) (by simp<;>omega)
    clear m5 m6 k5 hcp hc5 hT5 hx5
    go_wp2_with fail
    refine(c_maybeSub x p5 m y q k _ odd r _ R5 M Q _ hx6 hm6 hy6 (piece_words (mRow_words (zrow_words _) _) _ _) wM (by rw[HPl.out];exact HM.out) hcar
     (by have h:=mont_bound (c:=32) (k:=k) wA wB wM (by rw[HM.out];omega) (by rw[HM.out];exact HA.out) HK.out (by rw[HM.out];omega) hlt0;rw[HM.out]at h;rw[HPl.out];exact h)).mono ?_
    rintro e w7 ⟨L',rfl,m7,hx7,hbe,hv⟩
    have hfin:MontIs L' A B M:=mont_done (c:=32) (k:=k) wA wB wM (by rw[HM.out];omega) (by rw[HM.out];exact HA.out) (by rw[HM.out];exact HB.out) HK.out (by rw[HM.out];omega) hbe
     (by rw[HPl.out]at hv;rw[HM.out];exact hv)
    have M07:Mod [x,px] w w7:=Mod.trans (U:=[x,px]) M06 m7 (fun a ha _=>ha) (fun a ha hl=>by
     rcases kk with h|h
     ·simp at ha;simp[ha,h]
     ·simp at ha;omega)
    clear hv hx6 hm6 hy6 M06 m7 hbe
    go_wp2_with fail
    go_ret
    exact⟨p5,L',R5,rfl,M07,hx7,kk,hfin⟩
set_option maxRecDepth 4000000 in
theorem c_mont24(x px a pa b pb m y q k:Nat)(odd:Bool)(r:Value)(L R A Ra B Rb M Q:List Nat)(w:World)(hx:NatIs w x px L R)(ha:NatIs w a pa A Ra)(hb:NatIs w b pb B Rb)(hm:MHead w m y odd k r)(hy:NatIs w y q M Q)
 (hal:A.length=24) (hbl:B.length=24) (hml:M.length=24) (wA:Words A) (wB:Words B) (wM:Words M) (hlt0:val A<val M) (hk:(k*nth M 0)%W=W-1) (hyx:y≠x) (hq:q≠px) :
 Calls Tryz.prog 115 #[ptr x,ptr a,ptr b,ptr m] w fun e w'=>
  ∃p' X R',e=.returned (ptr x)∧Mod [x,px] w w'∧NatIs w' x p' X R'∧Kept w px p'∧MontIs X A B M:=by
 have hca:=ha.cell
 have hcb:=hb.cell
 have hcy:=hy.cell
 rw[hal]at hca
 rw[hbl]at hcb
 rw[hml]at hcy
 have hcm:=hm.c0
 have hcapa:=ha.cap;have hcapb:=hb.cap;have hcapy:=hy.cap
 have lx:=hx.xlt;have lpx:=hx.plt;have lpa:=ha.plt;have lpb:=hb.plt;have lq:=hy.plt;have lm:=hm.lt;have ly:=hy.xlt
 have HA:=hide hal;have HB:=hide hbl;have HM:=hide hml
 have HK:=hide hk
 clear hal hbl hml hk
 obtain⟨c,hc⟩:∃c:Nat,c=48:=⟨_,rfl⟩
 have HC:=hide hc
 have hmk:∀w,(Instr.makeSlice 50 (.int .i64 48) (.int .i64 48)).run Tryz.prog w=.ok (sl w.heap.size 0 48 48) (w.alloc (.cells ((zrow 48).map u64).toArray 51)):=make_uint 48 48 (by omega) (by omega)
 generalize hr1:((zrow 48).map u64).toArray=row1 at hmk
 have hT:Blk (w.alloc (.cells row1 51)) w.heap.size 51 ((zrow 48).map u64):=by
  rw[←hr1]
  exact Blk.new w _ _
 have hM0:Mod [] w (w.alloc (.cells row1 51)):=(Mod.refl [] w).alloc _
 clear hr1 hc HC
 go_enter Tryz.func115,Tryz.ntmps115
 go_wp2_with fail
 go_loopw [28,29] (fun c i wr=>∃j:Nat,j≤24∧i=i64 j∧c=u64 (mCar (zrow 48) A B M k 24 j)∧Mod [] w wr∧Blk wr w.heap.size 51 ((mRow (zrow 48) A B M k 24 j).map u64)) (fun _ i _=>24-(intOf i).toNat)
 case atStart=>exact⟨0,Nat.zero_le _,rfl,rfl,hM0,hT⟩
 case round=>
  obtain⟨j,hj,rfl,rfl,hmod,hTj⟩:=hrel
  have ha0:=ha.mod hmod (by simp) (by simp)
  have hy0:=hy.mod hmod (by simp) (by simp)
  have hx0:=hx.mod hmod (by simp) (by simp)
  have hm0:MHead wr m y odd k r:=Blk.mod hm hmod (by simp)
  have zl:(mRow (zrow 48) A B M k 24 j).length=48:=by rw[mRow_length,zrow_length]
  by_cases hlt:j<24
  ·have hb1:wr.cell? ⟨pb,j,none⟩=some (u64 (nth B j)):=(hb.mod hmod (by simp) (by simp)).at j (by rw[HB.out];exact hlt)
   have ht1:wr.cell? ⟨w.heap.size,24+j,none⟩=some (u64 (nth (mRow (zrow 48) A B M k 24 j) (24+j))):=hTj.at (24+j) (by rw[zl];omega)
   have hcj:¬48=j:=by omega
   have hcar:=mCar_le (Z:=(zrow 48)) (A:=A) (B:=B) (M:=M) (k:=k) (n:=24) j
   clear zl
   have hs1:IntKind.i64.wrap ((j:Int)+24)=(j:Int)+24:=IntWalk.i64_in _ (by omega)
   have hs2:0≤(j:Int)+24:=by omega
   have hs3:((j:Int)+24).toNat=j+24:=by omega
   have hs4:(j:Int)≤(j:Int)+24:=by omega
   have hs5:(j:Int)+24≤48:=by omega
   have hs6:(j:Int)<48:=by omega
   go_wp2_with fail
   go_region_with ((go_at_call 126;refine(c_mul1 (k:=k) (M:=M) w.heap.size a pa _ _ _ hTj.drew ha0.drew (by omega) HA.out (by omega) (by rw[zrow_length];omega) (zrow_words _) wA wB (by rw[zrow_length];omega)).mono ?_;rintro e w1 ⟨rfl,m1',hT1⟩;have m1:=m1'.ofDrew;clear m1'))
   have hm1':MHead w1 m y odd k r:=Blk.mod hm0 m1 (by simp<;>omega)
   have hck:=hm1'.c2
   have hy1:=hy0.mod m1 (by simp<;>omega) (by simp<;>omega)
   have ht2:w1.cell? ⟨w.heap.size,j,none⟩=some (u64 (nth (mRow1 (zrow 48) A B M k 24 j) j)):=hT1.at j (by rw[mRow1_length,zrow_length];omega)
   have hY:=mY_word (Z:=(zrow 48)) (A:=A) (B:=B) (M:=M) (k:=k) (n:=24) (j:=j)
   clear ht1 hb1
   go_wp2_with fail
   go_quiet (fail)
   go_wp2_with fail
   go_region_with ((go_at_call 126;refine(c_mul2 w.heap.size y q _ _ _ (hT1.drewN nq).drew (hy1.drewN nq).drew (by omega) HM.out (by omega) (by rw[zrow_length];omega) (zrow_words _) wM (by rw[zrow_length];omega)).mono ?_;rintro e w2 ⟨rfl,m2',hT2⟩;have m2:=m2'.ofDrew;clear m2'))
   have ht3:w2.cell? ⟨w.heap.size,24+j,none⟩=some (u64 (nth (mRow2 (zrow 48) A B M k 24 j) (24+j))):=hT2.at (24+j) (by rw[mRow2_length,zrow_length];omega)
   have hf3:=hT2.frozen (24+j)
   have hm3:Mod [] w (w2.setCell ⟨w.heap.size,24+j,none⟩ (u64 (addLo (mCar1 (zrow 48) A B M k 24 j) (mCar2 (zrow 48) A B M k 24 j) (mCar (zrow 48) A B M k 24 j)))):=
    (Mod.trans (U:=[]) hmod (Mod.trans (U:=[w.heap.size]) m1 m2.ofDrewN (by simp) (by simp)) (by simp) (by simp<;>omega)).setCell _ _ (by simp<;>omega)
   have hT3:=row_next hT2
   clear hmod m1 m2 hTj hT1 hT2 ht2 hck hY
   go_wp2_with fail
   refine(c_Add _ _ _ hcar _).mono ?_;rintro e w' ⟨rfl,rfl⟩
   go_wp2_with fail
   go_roundw
   case rel=>exact⟨j+1,by omega,by go_num,rfl,hm3,hT3⟩
   case measure=>simp[intOf];omega
  ·obtain rfl:24=j:=by omega
   have hcar:=mCar_le (Z:=(zrow 48)) (A:=A) (B:=B) (M:=M) (k:=k) (n:=24) 24
   have hg1:¬48=24:=by omega
   have hmx:m≠x:=Blk.ne hm hx.head (by decide)
   have hmp:m≠px:=Blk.ne hm hx.row (by decide)
   have hyp:y≠px:=hy.head.ne hx.row (by decide)
   have hqx:q≠x:=hy.row.ne hx.head (by decide)
   have hPl:(piece (mRow (zrow 48) A B M k 24 24) 24 24).length=24:=piece_length (by rw[mRow_length,zrow_length];omega)
   have HPl:=hide hPl
   clear hPl
   go_wp2_with fail
   go_region_with ((go_at_call 130;refine(c_reset x px 24 L R _ hx0.drew (by omega)).mono ?_;rintro e w5 ⟨p5,R5,rfl,m5,hx5,k5⟩;have hT5:Blk w5 w.heap.size 51 _:=hTj.drew.mod m5 (by simp<;>omega);obtain⟨w6,hcp,m6,hx6⟩:=copy_nat_off (M:=piece (mRow (zrow 48) A B M k 24 24) 24 24) hx5 hT5 (by rw[HPl.out];simp) (by rw[HPl.out,mRow_length,zrow_length];omega) (fun j hj=>(piece_nth (by rw[HPl.out]at hj;exact hj)).symm) (24+R5.length) (48-24) (24) (by rw[HPl.out];omega) 50;have hc5:=hx5.cell;rw[HPl.out]at hcp;simp only[List.length_replicate]at hcp hc5))
   all_goals
    have M06:Mod [x,px] w w6:=Mod.trans (U:=[x,px]) (Mod.trans (U:=[x,px]) hmod m5.ofDrew (by simp) (by simp)) m6 (fun a ha _=>ha) (fun a ha hl=>by
     have h0:=hmod.size
     rcases k5 with h|h
     ·simp at ha;simp[ha,h]
     ·simp at ha;simp at h;omega)
    have kk:Kept w px p5:=by
     have h0:=hmod.size
     rcases k5 with h|h
     ·exact .inl h
     ·simp at h;exact .inr (by omega)
    have hm6:MHead w6 m y odd k r:=Blk.mod hm M06 (by simp<;>omega)
    have hy6:=hy.mod M06 (by simp<;>omega) (by simp<;>omega)
    clear m5 m6 k5 hcp hc5 hT5 hx5
    go_wp2_with fail
    refine(c_maybeSub x p5 m y q k _ odd r _ R5 M Q _ hx6 hm6 hy6 (piece_words (mRow_words (zrow_words _) _) _ _) wM (by rw[HPl.out];exact HM.out) hcar
     (by have h:=mont_bound (c:=48) (k:=k) wA wB wM (by rw[HM.out];omega) (by rw[HM.out];exact HA.out) HK.out (by rw[HM.out];omega) hlt0;rw[HM.out]at h;rw[HPl.out];exact h)).mono ?_
    rintro e w7 ⟨L',rfl,m7,hx7,hbe,hv⟩
    have hfin:MontIs L' A B M:=mont_done (c:=48) (k:=k) wA wB wM (by rw[HM.out];omega) (by rw[HM.out];exact HA.out) (by rw[HM.out];exact HB.out) HK.out (by rw[HM.out];omega) hbe
     (by rw[HPl.out]at hv;rw[HM.out];exact hv)
    have M07:Mod [x,px] w w7:=Mod.trans (U:=[x,px]) M06 m7 (fun a ha _=>ha) (fun a ha hl=>by
     rcases kk with h|h
     ·simp at ha;simp[ha,h]
     ·simp at ha;omega)
    clear hv hx6 hm6 hy6 M06 m7 hbe
    go_wp2_with fail
    go_ret
    exact⟨p5,L',R5,rfl,M07,hx7,kk,hfin⟩
set_option maxRecDepth 4000000 in
theorem c_mont32(x px a pa b pb m y q k:Nat)(odd:Bool)(r:Value)(L R A Ra B Rb M Q:List Nat)(w:World)(hx:NatIs w x px L R)(ha:NatIs w a pa A Ra)(hb:NatIs w b pb B Rb)(hm:MHead w m y odd k r)(hy:NatIs w y q M Q)
 (hal:A.length=32) (hbl:B.length=32) (hml:M.length=32) (wA:Words A) (wB:Words B) (wM:Words M) (hlt0:val A<val M) (hk:(k*nth M 0)%W=W-1) (hyx:y≠x) (hq:q≠px) :
 Calls Tryz.prog 115 #[ptr x,ptr a,ptr b,ptr m] w fun e w'=>
  ∃p' X R',e=.returned (ptr x)∧Mod [x,px] w w'∧NatIs w' x p' X R'∧Kept w px p'∧MontIs X A B M:=by
 have hca:=ha.cell
 have hcb:=hb.cell
 have hcy:=hy.cell
 rw[hal]at hca
 rw[hbl]at hcb
 rw[hml]at hcy
 have hcm:=hm.c0
 have hcapa:=ha.cap;have hcapb:=hb.cap;have hcapy:=hy.cap
 have lx:=hx.xlt;have lpx:=hx.plt;have lpa:=ha.plt;have lpb:=hb.plt;have lq:=hy.plt;have lm:=hm.lt;have ly:=hy.xlt
 have HA:=hide hal;have HB:=hide hbl;have HM:=hide hml
 have HK:=hide hk
 clear hal hbl hml hk
 obtain⟨c,hc⟩:∃c:Nat,c=64:=⟨_,rfl⟩
 have HC:=hide hc
 have hmk:∀w,(Instr.makeSlice 50 (.int .i64 64) (.int .i64 64)).run Tryz.prog w=.ok (sl w.heap.size 0 64 64) (w.alloc (.cells ((zrow 64).map u64).toArray 51)):=make_uint 64 64 (by omega) (by omega)
 generalize hr1:((zrow 64).map u64).toArray=row1 at hmk
 have hT:Blk (w.alloc (.cells row1 51)) w.heap.size 51 ((zrow 64).map u64):=by
  rw[←hr1]
  exact Blk.new w _ _
 have hM0:Mod [] w (w.alloc (.cells row1 51)):=(Mod.refl [] w).alloc _
 clear hr1 hc HC
 go_enter Tryz.func115,Tryz.ntmps115
 go_wp2_with fail
 go_loopw [35,36] (fun c i wr=>∃j:Nat,j≤32∧i=i64 j∧c=u64 (mCar (zrow 64) A B M k 32 j)∧Mod [] w wr∧Blk wr w.heap.size 51 ((mRow (zrow 64) A B M k 32 j).map u64)) (fun _ i _=>32-(intOf i).toNat)
 case atStart=>exact⟨0,Nat.zero_le _,rfl,rfl,hM0,hT⟩
 case round=>
  obtain⟨j,hj,rfl,rfl,hmod,hTj⟩:=hrel
  have ha0:=ha.mod hmod (by simp) (by simp)
  have hy0:=hy.mod hmod (by simp) (by simp)
  have hx0:=hx.mod hmod (by simp) (by simp)
  have hm0:MHead wr m y odd k r:=Blk.mod hm hmod (by simp)
  have zl:(mRow (zrow 64) A B M k 32 j).length=64:=by rw[mRow_length,zrow_length]
  by_cases hlt:j<32
  ·have hb1:wr.cell? ⟨pb,j,none⟩=some (u64 (nth B j)):=(hb.mod hmod (by simp) (by simp)).at j (by rw[HB.out];exact hlt)
   have ht1:wr.cell? ⟨w.heap.size,32+j,none⟩=some (u64 (nth (mRow (zrow 64) A B M k 32 j) (32+j))):=hTj.at (32+j) (by rw[zl];omega)
   have hcj:¬64=j:=by omega
   have hcar:=mCar_le (Z:=(zrow 64)) (A:=A) (B:=B) (M:=M) (k:=k) (n:=32) j
   clear zl
   have hs1:IntKind.i64.wrap ((j:Int)+32)=(j:Int)+32:=IntWalk.i64_in _ (by omega)
   have hs2:0≤(j:Int)+32:=by omega
   have hs3:((j:Int)+32).toNat=j+32:=by omega
   have hs4:(j:Int)≤(j:Int)+32:=by omega
   have hs5:(j:Int)+32≤64:=by omega
   have hs6:(j:Int)<64:=by omega
   go_wp2_with fail
   go_region_with ((go_at_call 126;refine(c_mul1 (k:=k) (M:=M) w.heap.size a pa _ _ _ hTj.drew ha0.drew (by omega) HA.out (by omega) (by rw[zrow_length];omega) (zrow_words _) wA wB (by rw[zrow_length];omega)).mono ?_;rintro e w1 ⟨rfl,m1',hT1⟩;have m1:=m1'.ofDrew;clear m1'))
   have hm1':MHead w1 m y odd k r:=Blk.mod hm0 m1 (by simp<;>omega)
   have hck:=hm1'.c2
   have hy1:=hy0.mod m1 (by simp<;>omega) (by simp<;>omega)
   have ht2:w1.cell? ⟨w.heap.size,j,none⟩=some (u64 (nth (mRow1 (zrow 64) A B M k 32 j) j)):=hT1.at j (by rw[mRow1_length,zrow_length];omega)
   have hY:=mY_word (Z:=(zrow 64)) (A:=A) (B:=B) (M:=M) (k:=k) (n:=32) (j:=j)
   clear ht1 hb1
   go_wp2_with fail
   go_quiet (fail)
   go_wp2_with fail
   go_region_with ((go_at_call 126;refine(c_mul2 w.heap.size y q _ _ _ (hT1.drewN nq).drew (hy1.drewN nq).drew (by omega) HM.out (by omega) (by rw[zrow_length];omega) (zrow_words _) wM (by rw[zrow_length];omega)).mono ?_;rintro e w2 ⟨rfl,m2',hT2⟩;have m2:=m2'.ofDrew;clear m2'))
   have ht3:w2.cell? ⟨w.heap.size,32+j,none⟩=some (u64 (nth (mRow2 (zrow 64) A B M k 32 j) (32+j))):=hT2.at (32+j) (by rw[mRow2_length,zrow_length];omega)
   have hf3:=hT2.frozen (32+j)
   have hm3:Mod [] w (w2.setCell ⟨w.heap.size,32+j,none⟩ (u64 (addLo (mCar1 (zrow 64) A B M k 32 j) (mCar2 (zrow 64) A B M k 32 j) (mCar (zrow 64) A B M k 32 j)))):=
    (Mod.trans (U:=[]) hmod (Mod.trans (U:=[w.heap.size]) m1 m2.ofDrewN (by simp) (by simp)) (by simp) (by simp<;>omega)).setCell _ _ (by simp<;>omega)
   have hT3:=row_next hT2
   clear hmod m1 m2 hTj hT1 hT2 ht2 hck hY
   go_wp2_with fail
   refine(c_Add _ _ _ hcar _).mono ?_;rintro e w' ⟨rfl,rfl⟩
   go_wp2_with fail
   go_roundw
   case rel=>exact⟨j+1,by omega,by go_num,rfl,hm3,hT3⟩
   case measure=>simp[intOf];omega
  ·obtain rfl:32=j:=by omega
   have hcar:=mCar_le (Z:=(zrow 64)) (A:=A) (B:=B) (M:=M) (k:=k) (n:=32) 32
   have hg1:¬64=32:=by omega
   have hmx:m≠x:=Blk.ne hm hx.head (by decide)
   have hmp:m≠px:=Blk.ne hm hx.row (by decide)
   have hyp:y≠px:=hy.head.ne hx.row (by decide)
   have hqx:q≠x:=hy.row.ne hx.head (by decide)
   have hPl:(piece (mRow (zrow 64) A B M k 32 32) 32 32).length=32:=piece_length (by rw[mRow_length,zrow_length];omega)
   have HPl:=hide hPl
   clear hPl
   go_wp2_with fail
   go_region_with ((go_at_call 130;refine(c_reset x px 32 L R _ hx0.drew (by omega)).mono ?_;rintro e w5 ⟨p5,R5,rfl,m5,hx5,k5⟩;have hT5:Blk w5 w.heap.size 51 _:=hTj.drew.mod m5 (by simp<;>omega);obtain⟨w6,hcp,m6,hx6⟩:=copy_nat_off (M:=piece (mRow (zrow 64) A B M k 32 32) 32 32) hx5 hT5 (by rw[HPl.out];simp) (by rw[HPl.out,mRow_length,zrow_length];omega) (fun j hj=>(piece_nth (by rw[HPl.out]at hj;exact hj)).symm) (32+R5.length) (64-32) (32) (by rw[HPl.out];omega) 50;have hc5:=hx5.cell;rw[HPl.out]at hcp;simp only[List.length_replicate]at hcp hc5))
   all_goals
    have M06:Mod [x,px] w w6:=Mod.trans (U:=[x,px]) (Mod.trans (U:=[x,px]) hmod m5.ofDrew (by simp) (by simp)) m6 (fun a ha _=>ha) (fun a ha hl=>by
     have h0:=hmod.size
     rcases k5 with h|h
     ·simp at ha;simp[ha,h]
     ·simp at ha;simp at h;omega)
    have kk:Kept w px p5:=by
     have h0:=hmod.size
     rcases k5 with h|h
     ·exact .inl h
     ·simp at h;exact .inr (by omega)
    have hm6:MHead w6 m y odd k r:=Blk.mod hm M06 (by simp<;>omega)
    have hy6:=hy.mod M06 (by simp<;>omega) (by simp<;>omega)
    clear m5 m6 k5 hcp hc5 hT5 hx5
    go_wp2_with fail
    refine(c_maybeSub x p5 m y q k _ odd r _ R5 M Q _ hx6 hm6 hy6 (piece_words (mRow_words (zrow_words _) _) _ _) wM (by rw[HPl.out];exact HM.out) hcar
     (by have h:=mont_bound (c:=64) (k:=k) wA wB wM (by rw[HM.out];omega) (by rw[HM.out];exact HA.out) HK.out (by rw[HM.out];omega) hlt0;rw[HM.out]at h;rw[HPl.out];exact h)).mono ?_
    rintro e w7 ⟨L',rfl,m7,hx7,hbe,hv⟩
    have hfin:MontIs L' A B M:=mont_done (c:=64) (k:=k) wA wB wM (by rw[HM.out];omega) (by rw[HM.out];exact HA.out) (by rw[HM.out];exact HB.out) HK.out (by rw[HM.out];omega) hbe
     (by rw[HPl.out]at hv;rw[HM.out];exact hv)
    have M07:Mod [x,px] w w7:=Mod.trans (U:=[x,px]) M06 m7 (fun a ha _=>ha) (fun a ha hl=>by
     rcases kk with h|h
     ·simp at ha;simp[ha,h]
     ·simp at ha;omega)
    clear hv hx6 hm6 hy6 M06 m7 hbe
    go_wp2_with fail
    go_ret
    exact⟨p5,L',R5,rfl,M07,hx7,kk,hfin⟩
theorem c_montMul(x px a pa b pb m y q k:Nat)(odd:Bool)(r:Value)(L R A Ra B Rb M Q:List Nat)(w:World)(hx:NatIs w x px L R)(ha:NatIs w a pa A Ra)(hb:NatIs w b pb B Rb)(hm:MHead w m y odd k r)(hy:NatIs w y q M Q)
 (bA:Below' A M) (hbl:B.length=M.length) (wB:Words B) (wM:Words M) (hn:0<M.length) (hnb:M.length≤20000) (hk:(k*nth M 0)%W=W-1) (hyx:y≠x) (hq:q≠px) :
 Calls Tryz.prog 115 #[ptr x,ptr a,ptr b,ptr m] w fun e w'=>
  ∃p' X R',e=.returned (ptr x)∧Mod [x,px] w w'∧NatIs w' x p' X R'∧Kept w px p'∧MontIs X A B M:=by
 by_cases h16:M.length=16
 ·exact c_mont16 x px a pa b pb m y q k odd r L R A Ra B Rb M Q w hx ha hb hm hy (bA.len.trans h16) (hbl.trans h16) h16 bA.words wB wM bA.lt hk hyx hq
 by_cases h24:M.length=24
 ·exact c_mont24 x px a pa b pb m y q k odd r L R A Ra B Rb M Q w hx ha hb hm hy (bA.len.trans h24) (hbl.trans h24) h24 bA.words wB wM bA.lt hk hyx hq
 by_cases h32:M.length=32
 ·exact c_mont32 x px a pa b pb m y q k odd r L R A Ra B Rb M Q w hx ha hb hm hy (bA.len.trans h32) (hbl.trans h32) h32 bA.words wB wM bA.lt hk hyx hq
 exact c_mont_any M.length hn hnb (by simp;omega) (by simp;omega) (by simp;omega) x px a pa b pb m y q k odd r L R A Ra B Rb M Q w hx ha hb hm hy bA.len hbl rfl bA.words wB wM bA.lt hk hyx hq
set_option maxRecDepth 100000 in
theorem c_BitLen(m y q k:Nat)(odd:Bool)(r:Value)(M Q:List Nat)(w:World)(hm:MHead w m y odd k r)(hy:NatIs w y q M Q)(wM:Words M) :
 Calls Tryz.prog 81 #[ptr m] w fun e w'=>e=.returned (i64 (blen (val M)))∧w=w':=by
 have hc:=hm.c0
 go_enter Tryz.func81,Tryz.ntmps81
 go_wp2_with fail
 refine(c_BitLenVarTime y q M Q _ hy wM).mono ?_;rintro e w' ⟨rfl,rfl⟩
 go_wp2_with fail
 go_ret
 exact⟨rfl,rfl⟩
end Go.Proofs.YtfgmnbmnpihjdaaGreatDoor
