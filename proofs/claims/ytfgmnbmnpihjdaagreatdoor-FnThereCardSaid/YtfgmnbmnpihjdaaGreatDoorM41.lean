/- Lemmas of mine for the walk and its plain laws: HashK NewK PrivK -/
import Derived.Test.YtfgmnbmnpihjdaaGreatDoorM16
import Derived.Test.YtfgmnbmnpihjdaaGreatDoorM31
import Derived.Test.YtfgmnbmnpihjdaaGreatDoorM40
set_option linter.all false
set_option exponentiation.threshold 7000000
set_option maxHeartbeats 16000000
namespace Go.Proofs.YtfgmnbmnpihjdaaGreatDoor
open Go.RowKit
set_option maxRecDepth 100000 in
theorem c_WriteNil256(d:Nat)(ini:List Int)(fl:Value)(K:List Int)(a:Option Addr)(c:Nat)(w:World)(hD:DgAt (blk256 K) 64 v32 141 w d ini fl [])(li:ini.length=8) :
 Calls Tryz.prog 180 #[ptr d,.slice a 0 c] w fun e w'=>e=.returned (.tuple #[i64 0,.nilIface])∧Mod [d] w w'∧DgAt (blk256 K) 64 v32 141 w' d ini fl []:=by
 obtain⟨X,lX,hX,hB⟩:=hD
 have lh:=st256_length (K:=K) li []
 have hB0:Blk w d 141 (DgRow v32 (stH (blk256 K) 64 ini []) X 0 0 fl):=hB
 have bl:w.cell? ⟨d,73,none⟩=some (.int .u64 0):=DgRow.at_ln hB0 lh lX (o:=73) rfl
 have fl3:=hB0.frozen 73
 obtain⟨w1,hw1⟩:∃w1,w1=w.setCell ⟨d,73,none⟩ (.int .u64 0):=⟨_,rfl⟩
 have hB1:Blk w1 d 141 (DgRow v32 (stH (blk256 K) 64 ini []) X 0 0 fl):=by rw[hw1];exact DgRow.put_ln hB0 lh lX rfl 0
 have m1:Mod [d] w w1:=by rw[hw1];exact(Mod.refl [d] w).setCell _ _ (by simp)
 have bn:w1.cell? ⟨d,72,none⟩=some (.int .i64 0):=DgRow.at_nx hB1 lh lX (o:=72) rfl
 have hfin:DgAt (blk256 K) 64 v32 141 w1 d ini fl []:=⟨X,lX,hX,hB1⟩
 clear hB hB0 hB1 hX lX lh li
 go_enter Tryz.func180,Tryz.ntmps180
 go_upto_region 3 with fail
 rw[←hw1]
 clear hw1 bl fl3
 go_wp2_with fail
 go_ret2
 exact⟨rfl,m1,hfin⟩
set_option maxRecDepth 100000 in
theorem c_WriteNil512(d:Nat)(ini:List Int)(fl:Value)(K:List Int)(a:Option Addr)(c:Nat)(w:World)(hD:DgAt (blk512 K) 128 v64 145 w d ini fl [])(li:ini.length=8) :
 Calls Tryz.prog 190 #[ptr d,.slice a 0 c] w fun e w'=>e=.returned (.tuple #[i64 0,.nilIface])∧Mod [d] w w'∧DgAt (blk512 K) 128 v64 145 w' d ini fl []:=by
 obtain⟨X,lX,hX,hB⟩:=hD
 have lh:=st512_length (K:=K) li []
 have hB0:Blk w d 145 (DgRow v64 (stH (blk512 K) 128 ini []) X 0 0 fl):=hB
 have bl:w.cell? ⟨d,137,none⟩=some (.int .u64 0):=DgRow.at_ln hB0 lh lX (o:=137) rfl
 have fl3:=hB0.frozen 137
 obtain⟨w1,hw1⟩:∃w1,w1=w.setCell ⟨d,137,none⟩ (.int .u64 0):=⟨_,rfl⟩
 have hB1:Blk w1 d 145 (DgRow v64 (stH (blk512 K) 128 ini []) X 0 0 fl):=by rw[hw1];exact DgRow.put_ln hB0 lh lX rfl 0
 have m1:Mod [d] w w1:=by rw[hw1];exact(Mod.refl [d] w).setCell _ _ (by simp)
 have bn:w1.cell? ⟨d,136,none⟩=some (.int .i64 0):=DgRow.at_nx hB1 lh lX (o:=136) rfl
 have hfin:DgAt (blk512 K) 128 v64 145 w1 d ini fl []:=⟨X,lX,hX,hB1⟩
 clear hB hB0 hB1 hX lX lh li
 go_enter Tryz.func190,Tryz.ntmps190
 go_upto_region 3 with fail
 rw[←hw1]
 clear hw1 bl fl3
 go_wp2_with fail
 go_ret2
 exact⟨rfl,m1,hfin⟩
def H224(K:List Int)(M:List Nat):List Nat:=(dig224 (stH (blk256 K) 64 ini224 (M++padP256 M.length))).take 28
def AT224(K:List Int)(w:World)(d:Nat)(M:List Nat):Prop:=DgAt (blk256 K) 64 v32 141 w d ini224 (.bool true) M∧Blk w 5 237 (K.map v32)
theorem H224_ok(K:List Int):HashOk (H224 K) 28:=by
 refine⟨by omega,fun M=>?_,fun M i=>?_⟩
 ·have:(dig224 (stH (blk256 K) 64 ini224 (M++padP256 M.length))).length=32:=by simp[dig224,putL_length]
  rw[H224,List.length_take,this];rfl
 ·have hb:Bytes (dig224 (stH (blk256 K) 64 ini224 (M++padP256 M.length))):=by
   unfold dig224
   repeat (refine putL_bytes ?_ _ _ (fun j=>by omega))
   exact bytes_zeros _
  by_cases h:i<28
  ·rw[H224,nth_take h];exact hb i
  ·rw[H224,nth_ge (by rw[List.length_take];omega)];omega
theorem hash224(K:List Int)(lK:K.length=64):HashC 76 180 179 178 5 (AT224 K) (H224 K) 28:=by
 have lh:=fun M=>st256_length (K:=K) (ini:=ini224) rfl M
 refine⟨H224_ok K,by omega,by omega,fun h m h1 h2=>⟨h.1.mod m h1,h.2.mod m h2⟩,fun h=>?_,fun h hb=>⟨?_,?_⟩,fun w d M h=>?_,fun w d M x P h hx hA hP hM h0=>?_,fun w d M base x h ho hb hM=>?_,fun w d M h=>?_⟩
 ·obtain⟨⟨X,lX,hX,hB⟩,hK⟩:=h
  exact⟨hB.lt,hK.lt,hK.ne hB (by decide)⟩
 ·obtain⟨⟨X,lX,hX,hB⟩,hK⟩:=h
  exact hb.ne hB (by decide)
 ·exact hb.ne h.2 (by decide)
 ·obtain⟨⟨X,lX,hX,hB⟩,hK⟩:=h
  refine(c_Reset224 (blk256 K) d _ X _ _ w hB (lh M) lX).mono ?_
  rintro e w' ⟨rfl,m,h⟩
  exact⟨rfl,m,h,hK.mod m (by have:=hK.ne hB (by decide);simpa using this)⟩
 ·obtain⟨⟨X,lX,hX,hB⟩,hK⟩:=h
  have hne:=hK.ne hB (by decide)
  rcases hx with⟨rfl,rfl⟩|⟨a,c,rfl,rfl⟩|⟨b,o,c,rfl,hc,hcb⟩
  ·obtain rfl:M=[]:=by rcases h0 with h|h;exact absurd h (by simp);exact h
   refine(c_WriteNil256 d ini224 _ K none 0 w ⟨X,lX,hX,hB⟩ rfl).mono ?_
   rintro e w' ⟨rfl,m,h⟩
   exact⟨rfl,m,h,hK.mod m (by simpa using hne)⟩
  ·obtain rfl:M=[]:=by rcases h0 with h|h;exact absurd h (by simp);exact h
   refine(c_WriteNil256 d ini224 _ K (some a) c w ⟨X,lX,hX,hB⟩ rfl).mono ?_
   rintro e w' ⟨rfl,m,h⟩
   exact⟨rfl,m,h,hK.mod m (by simpa using hne)⟩
  ·by_cases hp:0<P.length
   ·refine(c_Write256 d ini224 _ M P K b o c w ⟨X,lX,hX,hB⟩ rfl hK lK hcb (hA _ _ _ _ rfl) hp (by omega) (by omega) hc).mono ?_
    rintro e w' ⟨rfl,m,h⟩
    exact⟨rfl,m,h,hK.mod m (by simpa using hne)⟩
   ·obtain rfl:P=[]:=List.eq_nil_of_length_eq_zero (by omega)
    obtain rfl:M=[]:=by rcases h0 with h|h;exact absurd h (by simp);exact h
    refine(c_WriteNil256 d ini224 _ K _ c w ⟨X,lX,hX,hB⟩ rfl).mono ?_
    rintro e w' ⟨rfl,m,h⟩
    exact⟨rfl,m,h,hK.mod m (by simpa using hne)⟩
 ·exact c_Sum224 d M K w base x h.1 h.2 lK (by omega) ho hb
 ·obtain⟨⟨X,lX,hX,hB⟩,hK⟩:=h
  refine(c_Size224 d _ X _ _ w hB (lh M) lX).mono ?_
  rintro e w' ⟨rfl,rfl⟩
  exact⟨rfl,rfl⟩
def H256(K:List Int)(M:List Nat):List Nat:=(dig256 (stH (blk256 K) 64 ini256 (M++padP256 M.length))).take 32
def AT256(K:List Int)(w:World)(d:Nat)(M:List Nat):Prop:=DgAt (blk256 K) 64 v32 141 w d ini256 (.bool false) M∧Blk w 5 237 (K.map v32)
theorem H256_ok(K:List Int):HashOk (H256 K) 32:=by
 refine⟨by omega,fun M=>?_,fun M i=>?_⟩
 ·have:(dig256 (stH (blk256 K) 64 ini256 (M++padP256 M.length))).length=32:=by simp[dig256,putL_length]
  rw[H256,List.length_take,this];rfl
 ·have hb:Bytes (dig256 (stH (blk256 K) 64 ini256 (M++padP256 M.length))):=by
   unfold dig256
   repeat (refine putL_bytes ?_ _ _ (fun j=>by omega))
   exact bytes_zeros _
  by_cases h:i<32
  ·rw[H256,nth_take h];exact hb i
  ·rw[H256,nth_ge (by rw[List.length_take];omega)];omega
theorem hash256(K:List Int)(lK:K.length=64):HashC 76 180 179 178 5 (AT256 K) (H256 K) 32:=by
 have lh:=fun M=>st256_length (K:=K) (ini:=ini256) rfl M
 refine⟨H256_ok K,by omega,by omega,fun h m h1 h2=>⟨h.1.mod m h1,h.2.mod m h2⟩,fun h=>?_,fun h hb=>⟨?_,?_⟩,fun w d M h=>?_,fun w d M x P h hx hA hP hM h0=>?_,fun w d M base x h ho hb hM=>?_,fun w d M h=>?_⟩
 ·obtain⟨⟨X,lX,hX,hB⟩,hK⟩:=h
  exact⟨hB.lt,hK.lt,hK.ne hB (by decide)⟩
 ·obtain⟨⟨X,lX,hX,hB⟩,hK⟩:=h
  exact hb.ne hB (by decide)
 ·exact hb.ne h.2 (by decide)
 ·obtain⟨⟨X,lX,hX,hB⟩,hK⟩:=h
  refine(c_Reset256 (blk256 K) d _ X _ _ w hB (lh M) lX).mono ?_
  rintro e w' ⟨rfl,m,h⟩
  exact⟨rfl,m,h,hK.mod m (by have:=hK.ne hB (by decide);simpa using this)⟩
 ·obtain⟨⟨X,lX,hX,hB⟩,hK⟩:=h
  have hne:=hK.ne hB (by decide)
  rcases hx with⟨rfl,rfl⟩|⟨a,c,rfl,rfl⟩|⟨b,o,c,rfl,hc,hcb⟩
  ·obtain rfl:M=[]:=by rcases h0 with h|h;exact absurd h (by simp);exact h
   refine(c_WriteNil256 d ini256 _ K none 0 w ⟨X,lX,hX,hB⟩ rfl).mono ?_
   rintro e w' ⟨rfl,m,h⟩
   exact⟨rfl,m,h,hK.mod m (by simpa using hne)⟩
  ·obtain rfl:M=[]:=by rcases h0 with h|h;exact absurd h (by simp);exact h
   refine(c_WriteNil256 d ini256 _ K (some a) c w ⟨X,lX,hX,hB⟩ rfl).mono ?_
   rintro e w' ⟨rfl,m,h⟩
   exact⟨rfl,m,h,hK.mod m (by simpa using hne)⟩
  ·by_cases hp:0<P.length
   ·refine(c_Write256 d ini256 _ M P K b o c w ⟨X,lX,hX,hB⟩ rfl hK lK hcb (hA _ _ _ _ rfl) hp (by omega) (by omega) hc).mono ?_
    rintro e w' ⟨rfl,m,h⟩
    exact⟨rfl,m,h,hK.mod m (by simpa using hne)⟩
   ·obtain rfl:P=[]:=List.eq_nil_of_length_eq_zero (by omega)
    obtain rfl:M=[]:=by rcases h0 with h|h;exact absurd h (by simp);exact h
    refine(c_WriteNil256 d ini256 _ K _ c w ⟨X,lX,hX,hB⟩ rfl).mono ?_
    rintro e w' ⟨rfl,m,h⟩
    exact⟨rfl,m,h,hK.mod m (by simpa using hne)⟩
 ·exact c_Sum256 d M K w base x h.1 h.2 lK (by omega) ho hb
 ·obtain⟨⟨X,lX,hX,hB⟩,hK⟩:=h
  refine(c_Size256 d _ X _ _ w hB (lh M) lX).mono ?_
  rintro e w' ⟨rfl,rfl⟩
  exact⟨rfl,rfl⟩
def H384(K:List Int)(M:List Nat):List Nat:=(dig384 (stH (blk512 K) 128 ini384 (M++padP512 M.length))).take 48
def AT384(K:List Int)(w:World)(d:Nat)(M:List Nat):Prop:=DgAt (blk512 K) 128 v64 145 w d ini384 (i64 48) M∧Blk w 6 241 (K.map v64)
theorem H384_ok(K:List Int):HashOk (H384 K) 48:=by
 refine⟨by omega,fun M=>?_,fun M i=>?_⟩
 ·have:(dig384 (stH (blk512 K) 128 ini384 (M++padP512 M.length))).length=64:=by simp[dig384,putL_length]
  rw[H384,List.length_take,this];rfl
 ·have hb:Bytes (dig384 (stH (blk512 K) 128 ini384 (M++padP512 M.length))):=by
   unfold dig384
   repeat (refine putL_bytes ?_ _ _ (fun j=>by omega))
   exact bytes_zeros _
  by_cases h:i<48
  ·rw[H384,nth_take h];exact hb i
  ·rw[H384,nth_ge (by rw[List.length_take];omega)];omega
theorem hash384(K:List Int)(lK:K.length=80):HashC 77 190 189 188 6 (AT384 K) (H384 K) 48:=by
 have lh:=fun M=>st512_length (K:=K) (ini:=ini384) rfl M
 refine⟨H384_ok K,by omega,by omega,fun h m h1 h2=>⟨h.1.mod m h1,h.2.mod m h2⟩,fun h=>?_,fun h hb=>⟨?_,?_⟩,fun w d M h=>?_,fun w d M x P h hx hA hP hM h0=>?_,fun w d M base x h ho hb hM=>?_,fun w d M h=>?_⟩
 ·obtain⟨⟨X,lX,hX,hB⟩,hK⟩:=h
  exact⟨hB.lt,hK.lt,hK.ne hB (by decide)⟩
 ·obtain⟨⟨X,lX,hX,hB⟩,hK⟩:=h
  exact hb.ne hB (by decide)
 ·exact hb.ne h.2 (by decide)
 ·obtain⟨⟨X,lX,hX,hB⟩,hK⟩:=h
  refine(c_Reset384 (blk512 K) d _ X _ _ w hB (lh M) lX).mono ?_
  rintro e w' ⟨rfl,m,h⟩
  exact⟨rfl,m,h,hK.mod m (by have:=hK.ne hB (by decide);simpa using this)⟩
 ·obtain⟨⟨X,lX,hX,hB⟩,hK⟩:=h
  have hne:=hK.ne hB (by decide)
  rcases hx with⟨rfl,rfl⟩|⟨a,c,rfl,rfl⟩|⟨b,o,c,rfl,hc,hcb⟩
  ·obtain rfl:M=[]:=by rcases h0 with h|h;exact absurd h (by simp);exact h
   refine(c_WriteNil512 d ini384 _ K none 0 w ⟨X,lX,hX,hB⟩ rfl).mono ?_
   rintro e w' ⟨rfl,m,h⟩
   exact⟨rfl,m,h,hK.mod m (by simpa using hne)⟩
  ·obtain rfl:M=[]:=by rcases h0 with h|h;exact absurd h (by simp);exact h
   refine(c_WriteNil512 d ini384 _ K (some a) c w ⟨X,lX,hX,hB⟩ rfl).mono ?_
   rintro e w' ⟨rfl,m,h⟩
   exact⟨rfl,m,h,hK.mod m (by simpa using hne)⟩
  ·by_cases hp:0<P.length
   ·refine(c_Write512 d ini384 _ M P K b o c w ⟨X,lX,hX,hB⟩ rfl hK lK hcb (hA _ _ _ _ rfl) hp (by omega) (by omega) hc).mono ?_
    rintro e w' ⟨rfl,m,h⟩
    exact⟨rfl,m,h,hK.mod m (by simpa using hne)⟩
   ·obtain rfl:P=[]:=List.eq_nil_of_length_eq_zero (by omega)
    obtain rfl:M=[]:=by rcases h0 with h|h;exact absurd h (by simp);exact h
    refine(c_WriteNil512 d ini384 _ K _ c w ⟨X,lX,hX,hB⟩ rfl).mono ?_
    rintro e w' ⟨rfl,m,h⟩
    exact⟨rfl,m,h,hK.mod m (by simpa using hne)⟩
 ·exact c_Sum384 d M K w base x h.1 h.2 lK (by omega) ho hb
 ·obtain⟨⟨X,lX,hX,hB⟩,hK⟩:=h
  refine(c_Size384 d _ X _ _ w hB (lh M) lX).mono ?_
  rintro e w' ⟨rfl,rfl⟩
  exact⟨rfl,rfl⟩
def H512(K:List Int)(M:List Nat):List Nat:=(dig512 (stH (blk512 K) 128 ini512 (M++padP512 M.length))).take 64
def AT512(K:List Int)(w:World)(d:Nat)(M:List Nat):Prop:=DgAt (blk512 K) 128 v64 145 w d ini512 (i64 64) M∧Blk w 6 241 (K.map v64)
theorem H512_ok(K:List Int):HashOk (H512 K) 64:=by
 refine⟨by omega,fun M=>?_,fun M i=>?_⟩
 ·have:(dig512 (stH (blk512 K) 128 ini512 (M++padP512 M.length))).length=64:=by simp[dig512,putL_length]
  rw[H512,List.length_take,this];rfl
 ·have hb:Bytes (dig512 (stH (blk512 K) 128 ini512 (M++padP512 M.length))):=by
   unfold dig512
   repeat (refine putL_bytes ?_ _ _ (fun j=>by omega))
   exact bytes_zeros _
  by_cases h:i<64
  ·rw[H512,nth_take h];exact hb i
  ·rw[H512,nth_ge (by rw[List.length_take];omega)];omega
theorem hash512(K:List Int)(lK:K.length=80):HashC 77 190 189 188 6 (AT512 K) (H512 K) 64:=by
 have lh:=fun M=>st512_length (K:=K) (ini:=ini512) rfl M
 refine⟨H512_ok K,by omega,by omega,fun h m h1 h2=>⟨h.1.mod m h1,h.2.mod m h2⟩,fun h=>?_,fun h hb=>⟨?_,?_⟩,fun w d M h=>?_,fun w d M x P h hx hA hP hM h0=>?_,fun w d M base x h ho hb hM=>?_,fun w d M h=>?_⟩
 ·obtain⟨⟨X,lX,hX,hB⟩,hK⟩:=h
  exact⟨hB.lt,hK.lt,hK.ne hB (by decide)⟩
 ·obtain⟨⟨X,lX,hX,hB⟩,hK⟩:=h
  exact hb.ne hB (by decide)
 ·exact hb.ne h.2 (by decide)
 ·obtain⟨⟨X,lX,hX,hB⟩,hK⟩:=h
  refine(c_Reset512 (blk512 K) d _ X _ _ w hB (lh M) lX).mono ?_
  rintro e w' ⟨rfl,m,h⟩
  exact⟨rfl,m,h,hK.mod m (by have:=hK.ne hB (by decide);simpa using this)⟩
 ·obtain⟨⟨X,lX,hX,hB⟩,hK⟩:=h
  have hne:=hK.ne hB (by decide)
  rcases hx with⟨rfl,rfl⟩|⟨a,c,rfl,rfl⟩|⟨b,o,c,rfl,hc,hcb⟩
  ·obtain rfl:M=[]:=by rcases h0 with h|h;exact absurd h (by simp);exact h
   refine(c_WriteNil512 d ini512 _ K none 0 w ⟨X,lX,hX,hB⟩ rfl).mono ?_
   rintro e w' ⟨rfl,m,h⟩
   exact⟨rfl,m,h,hK.mod m (by simpa using hne)⟩
  ·obtain rfl:M=[]:=by rcases h0 with h|h;exact absurd h (by simp);exact h
   refine(c_WriteNil512 d ini512 _ K (some a) c w ⟨X,lX,hX,hB⟩ rfl).mono ?_
   rintro e w' ⟨rfl,m,h⟩
   exact⟨rfl,m,h,hK.mod m (by simpa using hne)⟩
  ·by_cases hp:0<P.length
   ·refine(c_Write512 d ini512 _ M P K b o c w ⟨X,lX,hX,hB⟩ rfl hK lK hcb (hA _ _ _ _ rfl) hp (by omega) (by omega) hc).mono ?_
    rintro e w' ⟨rfl,m,h⟩
    exact⟨rfl,m,h,hK.mod m (by simpa using hne)⟩
   ·obtain rfl:P=[]:=List.eq_nil_of_length_eq_zero (by omega)
    obtain rfl:M=[]:=by rcases h0 with h|h;exact absurd h (by simp);exact h
    refine(c_WriteNil512 d ini512 _ K _ c w ⟨X,lX,hX,hB⟩ rfl).mono ?_
    rintro e w' ⟨rfl,m,h⟩
    exact⟨rfl,m,h,hK.mod m (by simpa using hne)⟩
 ·exact c_Sum512 d M K w base x h.1 h.2 lK (by omega) ho hb
 ·obtain⟨⟨X,lX,hX,hB⟩,hK⟩:=h
  refine(c_Size512 d _ X _ _ w hB (lh M) lX).mono ?_
  rintro e w' ⟨rfl,rfl⟩
  exact⟨rfl,rfl⟩
theorem meth256:MethK 97 76 180 179 178:=
 ⟨fun _ _=>by kernel_rfl,fun _ _=>by kernel_rfl,fun _ _=>by kernel_rfl,fun _ _=>by kernel_rfl,fun _ _=>by kernel_rfl,fun _ _=>by kernel_rfl,fun _ _=>by kernel_rfl,fun _ _=>by kernel_rfl,
   fun _ _=>by go_simp,fun _ _=>by go_simp,fun _ _=>by go_simp,fun _ _=>by go_simp⟩
theorem meth512:MethK 99 77 190 189 188:=
 ⟨fun _ _=>by kernel_rfl,fun _ _=>by kernel_rfl,fun _ _=>by kernel_rfl,fun _ _=>by kernel_rfl,fun _ _=>by kernel_rfl,fun _ _=>by kernel_rfl,fun _ _=>by kernel_rfl,fun _ _=>by kernel_rfl,
   fun _ _=>by go_simp,fun _ _=>by go_simp,fun _ _=>by go_simp,fun _ _=>by go_simp⟩
def hashF(K K':List Int)(n:Nat):List Nat→List Nat:=if n=28 then H224 K else if n=32 then H256 K else if n=48 then H384 K' else H512 K'
structure HashOf(K K':List Int)(n ty fR fW fS fZ kb:Nat)(AT:World→Nat→List Nat→Prop):Prop where
 meth:MethK ty fR fW fS fZ
 hc:HashC fR fW fS fZ kb AT (hashF K K' n) n
 kb:kb=5∨kb=6
 of:∀w,Blk w 5 237 (K.map v32)→Blk w 6 241 (K'.map v64) →
  Calls Tryz.prog 22 #[i64 (8*n)] w fun e w'=>∃d s,e=.returned (.tuple #[.iface ty (ptr d),s])∧Mod [] w w'∧w.heap.size≤d∧AT w' d []
set_option maxRecDepth 100000 in
theorem hashOf_28(K K':List Int)(lK:K.length=64)(lK':K'.length=80):HashOf K K' 28 97 76 180 179 178 5 (AT224 K):=by
 refine⟨meth256,by rw[show hashF K K' 28=H224 K by simp[hashF]];exact hash224 K lK,by left;rfl,fun w hK hK'=>?_⟩
 go_enter Tryz.func22,Tryz.ntmps22
 go_wp2_with fail
 refine(c_New224 (blk256 K) w).mono ?_
 rintro e w1 ⟨d,rfl,m1,hd,h1⟩
 have hAT:=hide (show AT224 K w1 d []from⟨h1,hK.mod m1 (by simp)⟩)
 clear h1
 go_wp2_with fail
 go_ret2
 exact⟨d,_,rfl,m1,hd,hAT.out⟩
set_option maxRecDepth 100000 in
theorem hashOf_32(K K':List Int)(lK:K.length=64)(lK':K'.length=80):HashOf K K' 32 97 76 180 179 178 5 (AT256 K):=by
 refine⟨meth256,by rw[show hashF K K' 32=H256 K by simp[hashF]];exact hash256 K lK,by left;rfl,fun w hK hK'=>?_⟩
 go_enter Tryz.func22,Tryz.ntmps22
 go_wp2_with fail
 refine(c_New256 (blk256 K) w).mono ?_
 rintro e w1 ⟨d,rfl,m1,hd,h1⟩
 have hAT:=hide (show AT256 K w1 d []from⟨h1,hK.mod m1 (by simp)⟩)
 clear h1
 go_wp2_with fail
 go_ret2
 exact⟨d,_,rfl,m1,hd,hAT.out⟩
set_option maxRecDepth 100000 in
theorem hashOf_48(K K':List Int)(lK:K.length=64)(lK':K'.length=80):HashOf K K' 48 99 77 190 189 188 6 (AT384 K'):=by
 refine⟨meth512,by rw[show hashF K K' 48=H384 K' by simp[hashF]];exact hash384 K' lK',by right;rfl,fun w hK hK'=>?_⟩
 go_enter Tryz.func22,Tryz.ntmps22
 go_wp2_with fail
 refine(c_New384 (blk512 K') w).mono ?_
 rintro e w1 ⟨d,rfl,m1,hd,h1⟩
 have hAT:=hide (show AT384 K' w1 d []from⟨h1,hK'.mod m1 (by simp)⟩)
 clear h1
 go_wp2_with fail
 go_ret2
 exact⟨d,_,rfl,m1,hd,hAT.out⟩
set_option maxRecDepth 100000 in
theorem hashOf_64(K K':List Int)(lK:K.length=64)(lK':K'.length=80):HashOf K K' 64 99 77 190 189 188 6 (AT512 K'):=by
 refine⟨meth512,by rw[show hashF K K' 64=H512 K' by simp[hashF]];exact hash512 K' lK',by right;rfl,fun w hK hK'=>?_⟩
 go_enter Tryz.func22,Tryz.ntmps22
 go_wp2_with fail
 refine(c_New512 (blk512 K') w).mono ?_
 rintro e w1 ⟨d,rfl,m1,hd,h1⟩
 have hAT:=hide (show AT512 K' w1 d []from⟨h1,hK'.mod m1 (by simp)⟩)
 clear h1
 go_wp2_with fail
 go_ret2
 exact⟨d,_,rfl,m1,hd,hAT.out⟩
theorem hashOf_all(K K':List Int)(n:Nat)(hn:n=28∨n=32∨n=48∨n=64)(lK:K.length=64)(lK':K'.length=80):∃ty fR fW fS fZ kb AT,HashOf K K' n ty fR fW fS fZ kb AT:=by
 rcases hn with rfl|rfl|rfl|rfl
 ·exact⟨_,_,_,_,_,_,_,hashOf_28 K K' lK lK'⟩
 ·exact⟨_,_,_,_,_,_,_,hashOf_32 K K' lK lK'⟩
 ·exact⟨_,_,_,_,_,_,_,hashOf_48 K K' lK lK'⟩
 ·exact⟨_,_,_,_,_,_,_,hashOf_64 K K' lK lK'⟩
set_option maxRecDepth 100000 in
theorem k_NewPriv(w:World)(vN vD vP vQ:Value)(BN BD BP BQ:List Nat)(en pv qv dv Nv:Nat)(gN:GotB w vN BN)(gD:GotB w vD BD)(gP:GotB w vP BP)(gQ:GotB w vQ BQ)
 (eN:bval BN=Nv) (eD:bval BD=dv) (eP:bval BP=pv) (eQ:bval BQ=qv) (lN:BN.length≤100000) (lP:BP.length≤100000) (lQ:BQ.length≤100000) (lD:BD.length≤8*wlen Nv) (lD0:0<BD.length)
 (hNv:Nv=pv*qv) (bN:blen Nv≤4000) (KL:KeyLaw pv qv en dv ((qv%pv)^(pv-1-1)%pv)) :
 Calls Tryz.prog 60 #[vN,.int .i64 en,vD,vP,vQ] w fun e w'=>∃k n d p q bP bQ qi EP EQ,e=.returned (.tuple #[ptr k,.nilIface])∧Mod [] w w'∧PrivAt w' k n en d p q pv qv dv ((qv%pv)^(pv-1-1)%pv) Nv bP bQ qi EP EQ:=by
 have p3:=KL.p3
 have q3:=KL.q3
 have KLh:=hide KL
 have HNV:=hide hNv
 have hN1:1<Nv:=by rw[hNv];have h:=(Nat.mul_lt_mul_left (a:=pv) (b:=1) (c:=qv) (by omega)).2 (by omega);omega
 have hdlt:dv<Nv:=by rw[hNv];exact KL.dlt
 have EN:=hide eN
 have ED:=hide eD
 have EP_:=hide eP
 have EQ_:=hide eQ
 clear KL hNv eN eD eP eQ
 have hz0:Mod [] w w:=Mod.refl _ _
 have bz:Mod [] w w:=Mod.refl _ _
 go_enter Tryz.func60,Tryz.ntmps60
 go_wp2_with fail
 refine(k_NewModulus _ vN BN (gN.mod bz) lN (by rw[EN.out];omega)).mono ?_
 rintro e v1 ⟨n,rfl,mm,hn,-⟩
 rw[EN.out]at hn
 have bv1:=bz.then mm
 clear mm bz
 go_wp2_with fail
 refine(k_NewModulus _ vP BP (gP.mod bv1) lP (by rw[EP_.out];omega)).mono ?_
 rintro e v2 ⟨p,rfl,mm,hp,-⟩
 rw[EP_.out]at hp
 replace hn:=(hn.mod mm)
 have bv2:=bv1.then mm
 clear mm bv1
 go_wp2_with fail
 refine(k_NewModulus _ vQ BQ (gQ.mod bv2) lQ (by rw[EQ_.out];omega)).mono ?_
 rintro e v3 ⟨q,rfl,mm,hq,-⟩
 rw[EQ_.out]at hq
 replace hn:=(hn.mod mm)
 replace hp:=(hp.mod mm)
 have bv3:=bv2.then mm
 clear mm bv2
 go_wp2_with fail
 replace hz0:=(hz0.then bv3)
 replace gN:=(gN.mod bv3)
 replace gD:=(gD.mod bv3)
 replace gP:=(gP.mod bv3)
 replace gQ:=(gQ.mod bv3)
 clear bv3
 have cv3:Mod [] v3 v3:=Mod.refl _ _
 refine(k_New _).mono ?_
 rintro e v4 ⟨x,rfl,mm,nx⟩
 replace nx:=nx.mono cv3.size
 have bv4:=cv3.then mm
 clear mm cv3
 go_wp2_with fail
 refine(k_SetBytes _ _ x _ _ n _ vD BD nx (hn.mod bv4) (gD.mod bv4) (ApartN.old gD nx) (MSep.base bv4 hn nx) lD lD0 (by rw[ED.out];exact hdlt)).mono ?_
 rintro e v5 ⟨rfl,f,n'⟩
 rw[ED.out]at n'
 have nn_:=n' bv4.size
 have bv5:=f.back bv4 nx
 clear nx n' f bv4
 have nx:=nn_
 clear nn_
 go_wp2_with fail
 refine(k_newPriv _ n en x p q pv qv dv Nv _ (hn.mod bv5) (hp.mod bv5) (hq.mod bv5) nx HNV.out bN KLh.out).mono ?_
 rintro e v6 ⟨k,bP,bQ,qi,EP,EQ,rfl,mm,A⟩
 have bv6:=bv5.then mm
 clear mm bv5
 go_wp2_with fail
 go_ret2
 exact⟨k,n,x,p,q,bP,bQ,qi,EP,EQ,rfl,(hz0.then bv6),A⟩
theorem bval_odd{B:List Nat}(h:0<B.length):bval B%2=nth B (B.length-1)%2:=by
 have e:=bseg_add B B.length 1 (B.length-1)
 rw[show 1+(B.length-1)=B.length by omega]at e
 show bseg B B.length B.length%2=_
 rw[e]
 simp only[bseg,Nat.sub_zero,Nat.pow_zero,Nat.pow_one,Nat.one_mul,Nat.zero_add]
 omega
theorem and_one_u8{n:Nat}(h:n<256)(ho:n%2=1):bits .and .u8 (n:Int) 1=1:=by
 have hx:n &&& 1=n%2:=Nat.and_one_is_mod n
 have h1:(BitVec.ofInt 8 (n:Int)).toNat=n:=by
  rw[BitVec.ofInt_natCast,BitVec.toNat_ofNat];exact Nat.mod_eq_of_lt (by omega)
 have h2:(BitVec.ofInt 8 (1:Int)).toNat=1:=by decide
 show IntKind.u8.wrap ((BitVec.ofInt 8 (n:Int) &&& BitVec.ofInt 8 (1:Int)).toNat:Int)=_
 rw[BitVec.toNat_and,h1,h2,hx,ho]
 decide
def KeyS(w:World)(k:Nat)(v0 v1 v2 v3 v4:Value)(w':World):Prop:=w'.cell? ⟨k,0,none⟩=some v0∧w'.cell? ⟨k,1,none⟩=some v1∧w'.cell? ⟨k,2,none⟩=some v2∧w'.cell? ⟨k,3,none⟩=some v3∧w'.cell? ⟨k,4,none⟩=some v4∧Mod [] w w'
theorem KeyS.up{w w1 w2:World}{k:Nat}{v0 v1 v2 v3 v4:Value}(h:KeyS w k v0 v1 v2 v3 v4 w1)(m:Mod [] w1 w2):KeyS w k v0 v1 v2 v3 v4 w2:=
 ⟨cell_up h.1 m,cell_up h.2.1 m,cell_up h.2.2.1 m,cell_up h.2.2.2.1 m,cell_up h.2.2.2.2.1 m,h.2.2.2.2.2.then m⟩
theorem KeyS.m{w w1:World}{k:Nat}{v0 v1 v2 v3 v4:Value}(h:KeyS w k v0 v1 v2 v3 v4 w1):Mod [] w w1:=h.2.2.2.2.2
set_option maxRecDepth 100000 in
theorem k_private(w:World)(vN vD vP vQ:Value)(BN BD BP BQ:List Nat)(en pv qv dv Nv:Nat)(gN:GotB w vN BN)(gD:GotB w vD BD)(gP:GotB w vP BP)(gQ:GotB w vQ BQ)
 (eN:bval BN=Nv) (eD:bval BD=dv) (eP:bval BP=pv) (eQ:bval BQ=qv) (lN:BN.length≤512) (lP:BP.length≤512) (lQ:BQ.length≤512) (lD:BD.length≤8*wlen Nv) (lD2:BD.length≤512) (lD0:0<BD.length) (lQ0:0<BQ.length)
 (hNv:Nv=pv*qv) (bN:blen Nv≤4000) (KL:KeyLaw pv qv en dv ((qv%pv)^(pv-1-1)%pv)) :
 Calls Tryz.prog 27 #[.agg #[vN,.int .i64 en,vD,vP,vQ]] w fun e w'=>∃k n d p q bP bQ qi EP EQ,e=.returned (.tuple #[ptr k,.bool true])∧Mod [] w w'∧PrivAt w' k n en d p q pv qv dv ((qv%pv)^(pv-1-1)%pv) Nv bP bQ qi EP EQ:=by
 have C:=hide (fun w' vN vD vP vQ gN gD gP gQ=>k_NewPriv w' vN vD vP vQ BN BD BP BQ en pv qv dv Nv gN gD gP gQ eN eD eP eQ (by omega) (by omega) (by omega) lD lD0 hNv bN KL)
 have hodd:=bval_odd lQ0
 rw[eQ,KL.qo]at hodd
 obtain⟨aN,cN,rfl⟩:=SliceB.isSlice gN.1
 obtain⟨aD,cD,rfl⟩:=SliceB.isSlice gD.1
 obtain⟨aP,cP,rfl⟩:=SliceB.isSlice gP.1
 obtain⟨b,o,c,rfl,hc,hcb⟩:∃b o c,vQ=sl b o BQ.length c∧BQ.length≤c∧CellsB w b o BQ:=by
  rcases gQ.1 with⟨e,hB⟩|⟨a,c,e,hB⟩|h
  ·rw[hB]at lQ0;simp at lQ0
  ·rw[hB]at lQ0;simp at lQ0
  ·exact h
 have hA:=Blk.new w 29 [.slice aN BN.length cN,.int .i64 en,.slice aD BD.length cD,.slice aP BP.length cP,sl b o BQ.length c]
 have m0:Mod [] w (w.alloc (.cells #[.slice aN BN.length cN,.int .i64 en,.slice aD BD.length cD,.slice aP BP.length cP,sl b o BQ.length c] 29)):=(Mod.refl [] w).alloc _
 obtain⟨T,hT⟩:∃T,T=BQ.length-1:=⟨_,rfl⟩
 have hlast:=cell_up (hcb T (by omega)) m0
 have g1:¬(512:Int)<(BN.length:Int):=by omega
 have g2:¬(512:Int)<(BD.length:Int):=by omega
 have g3:¬(512:Int)<(BP.length:Int):=by omega
 have g4:¬(512:Int)<(BQ.length:Int):=by omega
 have g5:¬(BQ.length:Int)=0:=by omega
 have e5:((BQ.length:Int) == 0)=false:=by rw[beq_eq_false_iff_ne];exact g5
 have eT:(BQ.length:Int)-1=(T:Int):=by omega
 have eTw:IntKind.i64.wrap (T:Int)=(T:Int):=IntWalk.i64_in _ (by omega)
 have eTw2:IntKind.i64.wrap ((BQ.length:Int)-1)=(T:Int):=by rw[eT];exact eTw
 have gT:(T:Int)<(BQ.length:Int):=by omega
 have gT2:T<BQ.length:=by omega
 have hand:=and_one_u8 (gQ.2.1 T) (by rw[hT];exact hodd.symm)
 have hS0:Hid (KeyS w w.heap.size (.slice aN BN.length cN) (.int .i64 en) (.slice aD BD.length cD) (.slice aP BP.length cP) (sl b o BQ.length c) (w.alloc (.cells #[.slice aN BN.length cN,.int .i64 en,.slice aD BD.length cD,.slice aP BP.length cP,sl b o BQ.length c] 29))):=hide ⟨by rw[hA.cell];rfl,by rw[hA.cell];rfl,by rw[hA.cell];rfl,by rw[hA.cell];rfl,by rw[hA.cell];rfl,m0⟩
 clear eN eD eP eQ lD lD0 hNv bN KL hodd hT
 go_enter Tryz.func27,Tryz.ntmps27
 go_wp2_with fail
 go_region_held3 (fun w'=>w'.cell? ⟨w.heap.size,0,none⟩=some (.slice aN BN.length cN)∧w'.cell? ⟨w.heap.size,1,none⟩=some (.int .i64 en)∧w'.cell? ⟨w.heap.size,2,none⟩=some (.slice aD BD.length cD)∧w'.cell? ⟨w.heap.size,3,none⟩=some (.slice aP BP.length cP)∧w'.cell? ⟨w.heap.size,4,none⟩=some (sl b o BQ.length c)∧Mod [] w w')
  (first|exact hS5|exact hS4|exact hS3|exact hS2|exact hS1|exact hS0.out.up ((Mod.refl [] _).drew))
  (first|(go_at_call_of 26 (Value.slice aN BN.length cN);have hx:KeyS w w.heap.size (.slice aN BN.length cN) (.int .i64 en) (.slice aD BD.length cD) (.slice aP BP.length cP) (sl b o BQ.length c) _:=(by assumption);refine(c_copied _ BN _ (GotB.mod gN hx.m).1 (by omega)).mono ?_;rintro e w1 ⟨x1,rfl,mA,s1,f1⟩;have hS1:KeyS w w.heap.size (.slice aN BN.length cN) (.int .i64 en) (.slice aD BD.length cD) (.slice aP BP.length cP) (sl b o BQ.length c) w1:=hx.up mA;have G1:GotB w1 x1 BN:=⟨s1,gN.2.1,fun _ _ _ _ e=>(f1 _ _ _ _ e).2⟩;clear mA)|(go_at_call_of 26 (Value.slice aD BD.length cD);have hx:KeyS w w.heap.size (.slice aN BN.length cN) (.int .i64 en) (.slice aD BD.length cD) (.slice aP BP.length cP) (sl b o BQ.length c) _:=(by assumption);refine(c_copied _ BD _ (GotB.mod gD hx.m).1 (by omega)).mono ?_;rintro e w2 ⟨x2,rfl,mA,s2,f2⟩;have hS2:KeyS w w.heap.size (.slice aN BN.length cN) (.int .i64 en) (.slice aD BD.length cD) (.slice aP BP.length cP) (sl b o BQ.length c) w2:=hx.up mA;have G2:GotB w2 x2 BD:=⟨s2,gD.2.1,fun _ _ _ _ e=>(f2 _ _ _ _ e).2⟩;replace G1:=G1.mod mA;clear mA)|(go_at_call_of 26 (Value.slice aP BP.length cP);have hx:KeyS w w.heap.size (.slice aN BN.length cN) (.int .i64 en) (.slice aD BD.length cD) (.slice aP BP.length cP) (sl b o BQ.length c) _:=(by assumption);refine(c_copied _ BP _ (GotB.mod gP hx.m).1 (by omega)).mono ?_;rintro e w3 ⟨x3,rfl,mA,s3,f3⟩;have hS3:KeyS w w.heap.size (.slice aN BN.length cN) (.int .i64 en) (.slice aD BD.length cD) (.slice aP BP.length cP) (sl b o BQ.length c) w3:=hx.up mA;have G3:GotB w3 x3 BP:=⟨s3,gP.2.1,fun _ _ _ _ e=>(f3 _ _ _ _ e).2⟩;replace G1:=G1.mod mA;replace G2:=G2.mod mA;clear mA)|(go_at_call_of 26 (sl b o BQ.length c);have hx:KeyS w w.heap.size (.slice aN BN.length cN) (.int .i64 en) (.slice aD BD.length cD) (.slice aP BP.length cP) (sl b o BQ.length c) _:=(by assumption);refine(c_copied _ BQ _ (GotB.mod gQ hx.m).1 (by omega)).mono ?_;rintro e w4 ⟨x4,rfl,mA,s4,f4⟩;have hS4:KeyS w w.heap.size (.slice aN BN.length cN) (.int .i64 en) (.slice aD BD.length cD) (.slice aP BP.length cP) (sl b o BQ.length c) w4:=hx.up mA;have G4:GotB w4 x4 BQ:=⟨s4,gQ.2.1,fun _ _ _ _ e=>(f4 _ _ _ _ e).2⟩;replace G1:=G1.mod mA;replace G2:=G2.mod mA;replace G3:=G3.mod mA;clear mA)|(go_at_call 60;refine(C.out _ _ _ _ _ G1 G2 G3 G4).mono ?_;rintro e w5 ⟨k,n,d,p,q,bP,bQ,qi,EP,EQ,rfl,m5,A⟩;have hS5:KeyS w w.heap.size (.slice aN BN.length cN) (.int .i64 en) (.slice aD BD.length cD) (.slice aP BP.length cP) (sl b o BQ.length c) w5:=hS4.up m5))
 go_wp2_with fail
 go_quiet (fail)
 go_wp2_with fail
 go_ret2
 exact⟨k,n,d,p,q,bP,bQ,qi,EP,EQ,rfl,hS5.m.drewN _,A.up ((Mod.refl [] _).drewN _)⟩
end Go.Proofs.YtfgmnbmnpihjdaaGreatDoor
