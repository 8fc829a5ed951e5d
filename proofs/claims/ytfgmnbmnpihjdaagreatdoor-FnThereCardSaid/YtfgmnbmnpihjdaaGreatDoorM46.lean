/- Lemmas of mine for the walk and its plain laws: LawH -/
import Derived.Test.YtfgmnbmnpihjdaaGreatDoorM33
import Derived.Test.YtfgmnbmnpihjdaaGreatDoorM42
import Derived.Test.YtfgmnbmnpihjdaaGreatDoorM45
import Derived.Test.YtfgmnbmnpihjdaaGreatDoorM44
set_option linter.all false
set_option exponentiation.threshold 7000000
namespace Go.Proofs.YtfgmnbmnpihjdaaGreatDoor
open Go.RowKit
def hN(h:Nat):Nat:=if h%4=0 then 28 else if h%4=1 then 32 else if h%4=2 then 48 else 64
theorem hN_all(h:Nat):hN h=28∨hN h=32∨hN h=48∨hN h=64:=by
 unfold hN
 split
 ·exact .inl rfl
 ·split
  ·exact .inr (.inl rfl)
  ·split
   ·exact .inr (.inr (.inl rfl))
   ·exact .inr (.inr (.inr rfl))
set_option maxRecDepth 100000 in
theorem c_hashNo(h:Nat)(hh:h<256)(w:World):Calls Tryz.prog 5 #[.int .u8 h] w fun e w'=>e=.returned (i64 (8*hN h))∧Mod [] w w':=by
 obtain⟨i,hi⟩:∃i,i=h%4:=⟨_,rfl⟩
 have i4:i<4:=by omega
 have e1:(h:Int)%4=(i:Int):=by omega
 unfold hN
 rw[←hi]
 clear hi
 rcases i with _|_|_|_|i
 ·go_enter Tryz.func5,Tryz.ntmps5
  go_wp2_with fail
  go_ret
  exact⟨rfl,(Mod.refl _ _).alloc _⟩
 ·go_enter Tryz.func5,Tryz.ntmps5
  go_wp2_with fail
  go_ret
  exact⟨rfl,(Mod.refl _ _).alloc _⟩
 ·go_enter Tryz.func5,Tryz.ntmps5
  go_wp2_with fail
  go_ret
  exact⟨rfl,(Mod.refl _ _).alloc _⟩
 ·go_enter Tryz.func5,Tryz.ntmps5
  go_wp2_with fail
  go_ret
  exact⟨rfl,(Mod.refl _ _).alloc _⟩
 ·omega
theorem okeyT_of{w:World}{i j e:Nat}{E:Int}{N D P Q:Nat}{uN uD uP uQ:Value}{BN BD BP BQ:List Nat}(hi:i<10)(hj:j<10)(eo:e%2=1)(eb:e≤2147483647)(hk:KeyOk i j e E N D P Q)
 (hN:ByV w uN BN∧BN.length=(blen N+7)/8∧bval BN=N) (hD:ByV w uD BD∧BD.length=(blen D+7)/8∧bval BD=D) (hP:ByV w uP BP∧BP.length=(blen P+7)/8∧bval BP=P) (hQ:ByV w uQ BQ∧BQ.length=(blen Q+7)/8∧bval BQ=Q) :
 E=(e:Int)∧OKey w uN uD uP uQ BN BD BP BQ e P Q D N∧(∀m,m<N→crtM (m^e%N) P Q D ((Q%P)^(P-1-1)%P) N=m)∧3≤e∧N%2=1∧blen N≤1214∧1<N:=by
 obtain⟨h1,h2,rfl,rfl,rfl,rfl,h7,h8⟩:=hk
 have F:=key_facts hi hj h1 h2 eo eb h7 h8
 have hP':=prs_prime i hi
 have hQ':=prs_prime j hj
 generalize nth prs i=P at *
 generalize nth prs j=Q at *
 have hdl:D<P*Q:=F.kl.dlt
 have b1:=F.bN
 have b2:=F.bN2
 have b3:=F.bp
 have b4:=F.bq
 have b5:=blen_mono (Nat.le_of_lt hdl)
 have p3:=F.kl.p3
 have q3:=F.kl.q3
 have hlaw:∀m,m<P*Q→crtM (m^e%(P*Q)) P Q D ((Q%P)^(P-1-1)%P) (P*Q)=m:=fun m hm=>by
  rw[F.law]
  refine rsa_round hP' hQ' F.kl.ne ?_ ?_ hm
  ·have:=F.kl.dp
   rwa [Nat.mul_mod,Nat.mod_mod,←Nat.mul_mod]at this
  ·have:=F.kl.dq
   rwa [Nat.mul_mod,Nat.mod_mod,←Nat.mul_mod]at this
 refine⟨rfl,⟨hN.1,hD.1,hP.1,hQ.1,hN.2.2,hD.2.2,hP.2.2,hQ.2.2,by rw[hN.2.1];omega,by rw[hP.2.1];omega,by rw[hQ.2.1];omega,by rw[hD.2.1];exact fit_le (Nat.le_of_lt hdl),by rw[hD.2.1];omega,by rw[hD.2.1];exact size_pos F.d0,by rw[hQ.2.1];exact size_pos (by omega),rfl,by omega,by omega,F.kl⟩,hlaw,h2,?_,b1,?_⟩
 ·rw[Nat.mul_mod,F.kl.po,F.kl.qo]
 ·have:=Nat.mul_lt_mul_of_lt_of_le (show 1<P by omega) (show 1≤Q by omega) (by omega);omega
theorem em6_lt{H:List Nat→List Nat}{n N z:Nat}{S lab M:List Nat}(ok:HashOk H n)(lS:S.length=n)(bS:Bytes S)(bM:Bytes M)(hz:(blen N+7)/8=2*n+2+z+M.length)(hN:N≠0) :
 bval (em6 H n ((blen N+7)/8) (em4 S (H lab) M z))<N:=by
 have l4:(em4 S (H lab) M z).length=(blen N+7)/8:=by rw[em4_length lS (ok.len _),hz]
 have hb:=em6_bytes (n:=n) (k:=(blen N+7)/8) ok (em4_bytes (z:=z) bS (ok.bytes lab) bM)
 have h1:=bval_lt_top hb (by rw[em6_zero (by omega)];rfl) (by rw[em6_length];omega)
 rw[em6_length,l4]at h1
 have h2:=two_blen_le hN
 have h3:(256:Nat)^((blen N+7)/8-1)≤2^(blen N-1):=by
  rw[show(256:Nat)=2^8 by rfl,←Nat.pow_mul]
  exact Nat.pow_le_pow_right (by omega) (by omega)
 omega
theorem bval_lim{B:List Nat}(bB:Bytes B)(l:B.length≤40000):bval B<lim:=by
 have h1:bval B<256^B.length:=bseg_lt bB _ _
 have e:(256:Nat)^B.length=2^(8*B.length):=by rw[Nat.pow_mul]
 have h2:2^(8*B.length)≤2^(16*20000):=Nat.pow_le_pow_right (by omega) (by omega)
 rw[Nat.pow_mul 2 16]at h2
 rw[lim_eq]
 rw[e]at h1
 exact Nat.lt_of_lt_of_le h1 h2
end Go.Proofs.YtfgmnbmnpihjdaaGreatDoor
