/- Lemmas of mine for the walk and its plain laws: PrivD PrivE PrivF PrivG PrivA -/
import Derived.Test.YtfgmnbmnpihjdaaGreatDoorM38
import Derived.Deep.DeepCutAuto
import Derived.Deep.RegionHeld3
set_option linter.all false
set_option exponentiation.threshold 7000000
set_option maxHeartbeats 16000000
namespace Go.Proofs.YtfgmnbmnpihjdaaGreatDoor
open Go.RowKit
set_option maxRecDepth 1000000 in
theorem k_privD(w0:World)(k n en d p q qi pv qv dv iv Nv bP bQ:Nat)(EP EQ:List Nat)(hE:KPE w0 k n en d p q qi pv qv dv iv Nv bP bQ EP EQ):KPD w0 k n en d p q qi pv qv dv iv Nv bP bQ EP EQ:=by
 intro m3 x4 x5 n5v wy u1_ u2_ u3_ u4_ u8_ u9_ u10_ u11_ u12_ u13_ u15_ u18_ u19_ u20_ u21_ u22_ u23_ u24_ u25_ u26_ u27_ u28_ u29_ u30_ u31_ u32_ u33_ u34_ u35_ u36_ u37_ u38_ u39_ u40_ u41_ u42_ u43_ u44_ u45_ u46_ u47_ u48_ u49_ u50_ u51_ u52_ u53_ u54_ u55_ u56_ u57_ u58_ u59_ u60_ u61_ u62_ u63_ u64_ u65_ u66_ u67_ u68_ u69_ u70_ u71_ u72_ u73_ u74_ u75_ u76_ u77_ u78_ u79_ u80_ u81_ u82_ u83_ u84_ u85_ u86_ u87_ u88_ u89_ u90_ u91_ u92_ u93_ u94_ u95_ u96_ u97_ u98_ u99_ u100_ u101_ u102_ u103_ u104_ u105_ u106_ u107_ u108_ u109_ u110_ u111_ u112_ u113_ u114_ u115_ u116_ u117_ u118_ u119_ u120_ u121_ u122_ u123_ u124_ u125_ u126_ u127_ u128_ u129_ u130_ u131_ u132_ u133_ u134_ u135_ u136_ u137_ u138_ u139_ u140_ u141_ u142_ u143_ u144_ u145_ u146_ u147_ u148_ u149_ u150_ u151_ u152_ u153_ u154_ u155_ u156_ u157_ u158_ u159_ u160_ u161_ u162_ u163_ u164_ u165_ u166_ u167_ u168_ u169_ u170_ u171_ u172_ u173_ u174_ u175_ u176_ u177_ u178_ u179_ u180_ u181_ u182_ u183_ u184_ u185_ u186_ u187_ u188_ u189_ u190_ u191_ u192_ u193_ u194_ u195_ u196_ u197_ u198_ u199_ u200_ u201_ u202_ u203_ u204_ u205_ u206_ u207_ u208_ u209_ u210_ u211_ u212_ u213_ u214_ u215_ u216_ u217_ u218_ u219_ u220_ u221_ u222_ u223_ u224_ u225_ u226_ u227_ u228_ u229_ u230_ u231_ u232_ u233_ u234_ u235_ u236_ u237_ u238_ u239_ u240_ u241_ u242_ u243_ u244_ u245_ u246_ u247_ u248_ u249_ u250_ u251_ u252_ u253_ u254_ u255_ u256_ u257_ u258_ u259_ u260_ u261_ u262_ u263_ u264_ u265_ u266_ u267_ u268_ u269_ u270_ u271_ u272_ u273_ u274_ u275_ u276_ u277_ u278_ u279_ u280_ u281_ u282_ u283_ u284_ u285_ u286_ u287_ u288_ u289_ u290_ u291_ u292_ u293_ u294_ u295_ u296_ u297_ u298_ u299_ u300_ u301_ u302_ u303_ u304_ u305_ u306_ u307_ u308_ u309_ HD
 obtain⟨wz,A,bz,hm3,n4,n5⟩:=HD
 have K:=A.ok
 have p3:=K.kl.p3
 have q3:=K.kl.q3
 have hpN:=K.pN
 have hqN:=K.qN
 have HNO:=hide K.no
 have HNV:=hide K.nv
 have LP:=hide K.lP
 have LQ:=hide K.lQ
 have EPv:=hide K.eP
 have EQv:=hide K.eQ
 have yP:=K.yP
 have yQ:=K.yQ
 have KLh:=hide K.kl
 have blN:=K.bN
 have blp:=K.bp
 have blq:=K.bq
 have p1:1≤pv:=by omega
 have q1:1≤qv:=by omega
 have hpNl:=Nat.le_of_lt hpN
 have hqNl:=Nat.le_of_lt hqN
 have hcv:IntKind.u64.wrap (en:Int)=(en:Int):=IntWalk.u64_in _ (by have:=K.kl.eb;omega)
 obtain⟨fl,hkz⟩:=A.hk
 have hz0:=A.h0
 have gk:=A.gk
 have hnz:=A.hn
 have hpz:=A.hp
 have hqz:=A.hq
 have hdz:=A.hd
 have hiz:=A.hi
 have rPz:=A.rP
 have rQz:=A.rQ
 clear A K
 conv=>arg 2;whnf
 go_wp2_with fail
 have c1wy:Mod [] wy wy:=Mod.refl _ _
 refine(k_Nat _ q _ (hqz.mod (bz.then c1wy))).mono ?_
 rintro e v1 ⟨t1,rfl,mm,nt⟩
 replace nt:=nt.mono c1wy.size
 have bv1:=c1wy.then mm
 clear mm c1wy
 go_wp2_with fail
 refine(k_SubOne _ _ t1 _ q _ bv1 (hqz.mod bz) nt q1).mono ?_
 rintro e v2 ⟨rfl,f,-,n'⟩
 have nn_:=n'
 have bv2:=f.back bv1 nt
 clear nt n' f bv1
 have nt:=nn_
 clear nn_
 go_wp2_with fail
 refine(k_Bytes _ _ t1 _ _ q _ nt (hqz.mod (bz.then bv2)) (lt_size (Nat.sub_lt q1 Nat.one_pos)) (by omega)).mono ?_
 rintro e v3 ⟨bka,Ba,rfl,mm,rwa,gba,lB,hBa,eB⟩
 clear nt
 have bv3:=bv2.then mm
 clear mm bv2
 have LBa:=hide lB
 have EBa:=hide eB
 clear lB eB gba
 go_wp2_with fail
 refine(k_NewModulus _ _ Ba (GotB.row rwa hBa) (by rw[LBa.out];exact(by omega)) (by rw[EBa.out];exact(by omega))).mono ?_
 rintro e v4 ⟨m4,rfl,mm,hm4,hsep⟩
 rw[EBa.out]at hm4
 have ms:=hsep _ _ _ _ (n5.mod bv3)
 have bv4:=bv3.then mm
 clear mm bv3
 clear hsep
 clear rwa LBa EBa hBa
 go_wp2_with fail
 replace n5:=(n5.mod bv4)
 have d2v4:=bz.then bv4
 clear bz bv4
 have c3v4:Mod [] v4 v4:=Mod.refl _ _
 have kc:=PKey.c6 (Blk.up hkz (d2v4.then c3v4))
 go_region_held3 (fun w'=>w'.cell? ⟨k,6,none⟩=some (sl bQ 0 EQ.length EQ.length)∧Mod [] v4 w')
  (first|exact⟨cell_up kc mm,mm⟩|exact⟨cell_up kc mm1,mm1⟩|exact KHeld.drew ⟨kc,Mod.refl _ _⟩|assumption)
  (first|(go_at_call 84;refine(k_New _).mono ?_;rintro e v5 ⟨x6,rfl,mm1,n6⟩;replace mm1:Mod [] v4 v5:=mm1.ofDrew)|(go_at_call 85;replace n6:NumAt _ v4.heap.size _ _ _:=n6;refine(k_SetBytes _ _ x6 _ _ m4 _ _ EQ n6 (MdAt.mod (hm4.mod c3v4) mm1) (GotB.row (Blk.up (Blk.up rQz (d2v4.then c3v4)) mm1) yQ) (ApartN.row (Blk.up (Blk.up rQz (d2v4.then c3v4)) mm1) _ _) (MSep.base mm1 (hm4.mod c3v4) n6) (by rw[LQ.out];exact(fit_le (Nat.le_refl _))) (by rw[LQ.out];exact(size_pos (by omega))) (by rw[EQv.out];exact(Nat.mod_lt _ (by omega)))).mono ?_;rintro e v6 ⟨rfl,f,n'⟩;rw[EQv.out]at n';have mm:=f.back mm1 n6;have n2:=n' mm1.size))
 clear kc n6 n' f mm1
 have n6:=n2
 clear n2
 replace n6:=n6.mono c3v4.size
 have bv6:=c3v4.then mm
 clear mm c3v4
 have s56:=Sep.new n5 bv6 n6
 replace ms:=MSep.mod ms n5 hm4 bv6
 replace n5:=(n5.mod bv6)
 replace hm4:=(hm4.mod bv6)
 have d4v6:=d2v4.then bv6
 clear d2v4 bv6
 have kc:=PKey.c1 (Blk.up hkz d4v6)
 go_wp2_with fail
 refine(k_SetUint _ _ x5 _ _ en n5 (Nat.lt_of_le_of_lt KLh.out.eb (by decide))).mono ?_
 rintro e v7 ⟨rfl,f,n'⟩
 have nn_:=n' d4v6.size
 have bv7:=f.back d4v6 n5
 have sp:=f.sep s56 n6
 replace n6:=f.num s56 n6
 replace s56:=sp
 clear sp
 have sp:=f.msepE ms hm4 (pred_even q1 KLh.out.qo)
 replace hm4:=f.mdE ms hm4 (pred_even q1 KLh.out.qo)
 replace ms:=sp
 clear sp
 clear n5 n' f d4v6
 have n5:=nn_
 clear nn_
 go_wp2_with fail
 clear kc
 refine(k_Expand _ _ x5 _ _ m4 _ n5 hm4 (wlen_pos (by omega))).mono ?_
 rintro e v8 ⟨rfl,f,n'⟩
 have nn_:=n' bv7.size
 have bv8:=f.back bv7 n5
 have sp:=f.sep s56 n6
 replace n6:=f.num s56 n6
 replace s56:=sp
 clear sp
 have sp:=f.msepE ms hm4 (pred_even q1 KLh.out.qo)
 replace hm4:=f.mdE ms hm4 (pred_even q1 KLh.out.qo)
 replace ms:=sp
 clear sp
 clear n5 n' f bv7
 have n5:=nn_
 clear nn_
 go_wp2_with fail
 refine(k_MulE _ _ x5 _ m4 _ _ x6 _ hm4 (pred_even q1 KLh.out.qo) (wlen_pred KLh.out.ql) ms n5 n6 KLh.out.eq).mono ?_
 rintro e v9 ⟨rfl,f,n'⟩
 have nn_:=n' bv8.size
 have bv9:=f.back bv8 n5
 have sp:=f.sep s56 n6
 replace n6:=f.num s56 n6
 replace s56:=sp
 clear sp
 have sp:=f.msepE ms hm4 (pred_even q1 KLh.out.qo)
 replace hm4:=f.mdE ms hm4 (pred_even q1 KLh.out.qo)
 replace ms:=sp
 clear sp
 clear n5 n' f bv8
 have n5:=nn_
 clear nn_
 go_wp2_with fail
 rw[KLh.out.dq]at n5
 refine(k_IsOne _ _ x5 _ _ n5).mono ?_
 rintro e w' ⟨rfl,rfl⟩
 rw[eqB_self]
 go_upto_if 201 with fail
 go_cut []from 201 to 202 (fun wx=>wx=v9)
 case first=>
  go_wp2_with fail
  go_meet
  rfl
 case rest=>
  obtain rfl:=hcut
  apply_assumption
  exact hE _ _ _ _ _ _ _ _ _ _ _ _ _ _ _ _ _ _ _ _ _ _ _ _ _ _ _ _ _ _ _ _ _ _ _ _ _ _ _ _ _ _ _ _ _ _ _ _ _ _ _ _ _ _ _ _ _ _ _ _ _ _ _ _ _ _ _ _ _ _ _ _ _ _ _ _ _ _ _ _ _ _ _ _ _ _ _ _ _ _ _ _ _ _ _ _ _ _ _ _ _ _ _ _ _ _ _ _ _ _ _ _ _ _ _ _ _ _ _ _ _ _ _ _ _ _ _ _ _ _ _ _ _ _ _ _ _ _ _ _ _ _ _ _ _ _ _ _ _ _ _ _ _ _ _ _ _ _ _ _ _ _ _ _ _ _ _ _ _ _ _ _ _ _ _ _ _ _ _ _ _ _ _ _ _ _ _ _ _ _ _ _ _ _ _ _ _ _ _ _ _ _ _ _ _ _ _ _ _ _ _ _ _ _ _ _ _ _ _ _ _ _ _ _ _ _ _ _ _ _ _ _ _ _ _ _ _ _ _ _ _ _ _ _ _ _ _ _ _ _ _ _ _ _ _ _ _ _ _ _ _ _ _ _ _ _ _ _ _ _ _ _ _ _ _ _ _ _ _ _ _ _ _ _ _ _ _ _ _ _ _ _ _ _ _ _ _ _ _ _ _ _ _ _ _ _ _ ⟨⟨HNO.out,hpN,hqN,HNV.out,LP.out,LQ.out,EPv.out,EQv.out,yP,yQ,KLh.out,blN,blp,blq⟩,(hz0.then bv9),gk,⟨fl,(Blk.up hkz bv9)⟩,(hnz.mod bv9),(hpz.mod bv9),(hqz.mod bv9),(hdz.mod bv9),(hiz.mod bv9),(Blk.up rPz bv9),(Blk.up rQz bv9)⟩ (hm3.mod bv9) ((n4.mod bv9).mono (Nat.zero_le _)) hm4 (n6.mono (Nat.zero_le _))
set_option maxRecDepth 1000000 in
theorem k_privE(w0:World)(k n en d p q qi pv qv dv iv Nv bP bQ:Nat)(EP EQ:List Nat)(hG:KPG w0 k n en d p q qi pv qv dv iv Nv bP bQ EP EQ):KPE w0 k n en d p q qi pv qv dv iv Nv bP bQ EP EQ:=by
 intro m3 x4 m4 x6 wz u1_ u2_ u3_ u4_ u8_ u9_ u10_ u11_ u12_ u13_ u15_ u17_ u20_ u21_ u22_ u23_ u24_ u25_ u26_ u27_ u28_ u29_ u30_ u31_ u32_ u33_ u34_ u35_ u36_ u37_ u38_ u39_ u40_ u41_ u42_ u43_ u44_ u45_ u46_ u47_ u48_ u49_ u50_ u51_ u52_ u53_ u54_ u55_ u56_ u57_ u58_ u59_ u60_ u61_ u62_ u63_ u64_ u65_ u66_ u67_ u68_ u69_ u70_ u71_ u72_ u73_ u74_ u75_ u76_ u77_ u78_ u79_ u80_ u81_ u82_ u83_ u84_ u85_ u86_ u87_ u88_ u89_ u90_ u91_ u92_ u93_ u94_ u95_ u96_ u97_ u98_ u99_ u100_ u101_ u102_ u103_ u104_ u105_ u106_ u107_ u108_ u109_ u110_ u111_ u112_ u113_ u114_ u115_ u116_ u117_ u118_ u119_ u120_ u121_ u122_ u123_ u124_ u125_ u126_ u127_ u128_ u129_ u130_ u131_ u132_ u133_ u134_ u135_ u136_ u137_ u138_ u139_ u140_ u141_ u142_ u143_ u144_ u145_ u146_ u147_ u148_ u149_ u150_ u151_ u152_ u153_ u154_ u155_ u156_ u157_ u158_ u159_ u160_ u161_ u162_ u163_ u164_ u165_ u166_ u167_ u168_ u169_ u170_ u171_ u172_ u173_ u174_ u175_ u176_ u177_ u178_ u179_ u180_ u181_ u182_ u183_ u184_ u185_ u186_ u187_ u188_ u189_ u190_ u191_ u192_ u193_ u194_ u195_ u196_ u197_ u198_ u199_ u200_ u201_ u202_ u203_ u204_ u205_ u206_ u207_ u208_ u209_ u210_ u211_ u212_ u213_ u214_ u215_ u216_ u217_ u218_ u219_ u220_ u221_ u222_ u223_ u224_ u225_ u226_ u227_ u228_ u229_ u230_ u231_ u232_ u233_ u234_ u235_ u236_ u237_ u238_ u239_ u240_ u241_ u242_ u243_ u244_ u245_ u246_ u247_ u248_ u249_ u250_ u251_ u252_ u253_ u254_ u255_ u256_ u257_ u258_ u259_ u260_ u261_ u262_ u263_ u264_ u265_ u266_ u267_ u268_ u269_ u270_ u271_ u272_ u273_ u274_ u275_ u276_ u277_ u278_ u279_ u280_ u281_ u282_ u283_ u284_ u285_ u286_ u287_ u288_ u289_ u290_ u291_ u292_ u293_ u294_ u295_ u296_ u297_ u298_ u299_ u300_ u301_ u302_ u303_ u304_ u305_ u306_ u307_ u308_ u309_ A hm3 n4 hm4 n6
 have K:=A.ok
 have p3:=K.kl.p3
 have q3:=K.kl.q3
 have hpN:=K.pN
 have hqN:=K.qN
 have HNO:=hide K.no
 have HNV:=hide K.nv
 have LP:=hide K.lP
 have LQ:=hide K.lQ
 have EPv:=hide K.eP
 have EQv:=hide K.eQ
 have yP:=K.yP
 have yQ:=K.yQ
 have KLh:=hide K.kl
 have blN:=K.bN
 have blp:=K.bp
 have blq:=K.bq
 have p1:1≤pv:=by omega
 have q1:1≤qv:=by omega
 have hpNl:=Nat.le_of_lt hpN
 have hqNl:=Nat.le_of_lt hqN
 have hcv:IntKind.u64.wrap (en:Int)=(en:Int):=IntWalk.u64_in _ (by have:=K.kl.eb;omega)
 obtain⟨fl,hkz⟩:=A.hk
 have hz0:=A.h0
 have gk:=A.gk
 have hnz:=A.hn
 have hpz:=A.hp
 have hqz:=A.hq
 have hdz:=A.hd
 have hiz:=A.hi
 have rPz:=A.rP
 have rQz:=A.rQ
 clear A K
 have bz:Mod [] wz wz:=Mod.refl _ _
 conv=>arg 2;whnf
 go_wp2_with fail
 refine(k_New _).mono ?_
 rintro e v1 ⟨x7,rfl,mm,n7⟩
 replace n7:=n7.mono bz.size
 have bv1:=bz.then mm
 clear mm bz
 go_wp2_with fail
 refine(k_Nat _ q _ (hqz.mod bv1)).mono ?_
 rintro e v2 ⟨t1,rfl,mm,nt⟩
 replace nt:=nt.mono bv1.size
 replace n7:=(n7.mod mm)
 have bv2:=bv1.then mm
 clear mm bv1
 go_wp2_with fail
 refine(k_Bytes _ _ t1 _ _ q _ nt (hqz.mod bv2) (lt_size_self _) (by omega)).mono ?_
 rintro e v3 ⟨bka,Ba,rfl,mm,rwa,gba,lB,hBa,eB⟩
 clear nt
 replace n7:=(n7.mod mm)
 have bv3:=bv2.then mm
 clear mm bv2
 have LBa:=hide lB
 have EBa:=hide eB
 clear lB eB gba
 go_wp2_with fail
 refine(k_SetOver2 _ _ x7 _ _ p _ _ Ba bv3 hpz n7 (GotB.row rwa hBa) (ApartN.row rwa _ _) (by rw[LBa.out];exact(size_pos (by omega))) (by rw[LBa.out];omega)).mono ?_
 rintro e v4 ⟨r1,r2,rfl,bY,hor⟩
 rw[EBa.out]at hor
 clear n7
 clear rwa LBa EBa hBa
 clear bv3
 go_upto_region 47 with fail
 go_cut [214]from 213 to 213 (fun a wx=>wx=v4∧∃c,a=.bool c∧((c=false∧∃x,r1=ptr x∧NumAt v4 wz.heap.size x (wlen pv) (qv%pv))∨c=true))
 case first=>
  rcases hor with⟨rfl,rfl,h⟩|⟨rfl,er,rfl⟩
  ·go_wp2_with fail
   go_meet
   exact⟨rfl,false,rfl,.inl ⟨rfl,_,rfl,h⟩⟩
  ·go_wp2_with fail
   go_meet
   exact⟨rfl,true,rfl,.inr rfl⟩
 case rest=>
  clear hor
  obtain⟨rfl,c,rfl,hc⟩:=hcut
  go_upto_if 214 with fail
  go_cut [20]from 213 to 219 (fun a wx=>Mod [] wz wx∧∃x,a=ptr x∧NumAt wx wz.heap.size x (wlen pv) (qv%pv))
  case first=>
   rcases hc with⟨rfl,x,rfl,h⟩|rfl
   ·go_wp2_with fail
    go_meet
    exact⟨bY,x,rfl,h⟩
   ·go_wp2_with fail
    refine(k_New _).mono ?_
    rintro e v5 ⟨x7,rfl,mm,n7⟩
    replace n7:=n7.mono bY.size
    have bv5:=bY.then mm
    clear mm bY
    go_wp2_with fail
    refine(k_Nat _ q _ (hqz.mod bv5)).mono ?_
    rintro e v6 ⟨t1,rfl,mm,nt⟩
    have sep:=Sep.new n7 mm nt
    replace nt:=nt.mono bv5.size
    replace n7:=(n7.mod mm)
    have bv6:=bv5.then mm
    clear mm bv5
    go_wp2_with fail
    refine(k_Mod _ _ x7 _ _ _ t1 _ _ p _ bv6 hpz n7 nt sep).mono ?_
    rintro e v7 ⟨rfl,f,-,n'⟩
    have nn_:=n'
    have bv7:=f.back bv6 n7
    clear n7 n' f bv6
    have n7:=nn_
    clear nn_
    clear nt
    go_wp2_with fail
    go_meet
    exact⟨bv7,_,rfl,n7⟩
  case rest=>
   clear hc
   obtain⟨bY2,x7,rfl,n7⟩:=hcut
   clear bY
   have kc:=PKey.c7 (Blk.up hkz bY2)
   go_wp2_with fail
   refine(k_Mul _ _ x7 _ p _ _ qi _ bY2 hpz KLh.out.po n7 (hiz.mod bY2) (Nat.mod_lt _ (by omega))).mono ?_
   rintro e v25 ⟨rfl,f,-,n'⟩
   have nn_:=n'
   have bv25:=f.back bY2 n7
   clear n7 n' f bY2
   have n7:=nn_
   clear nn_
   clear kc
   rw[KLh.out.inv.2]at n7
   go_wp2_with fail
   refine(k_IsOne _ _ x7 _ _ n7).mono ?_
   rintro e w' ⟨rfl,rfl⟩
   rw[eqB_self]
   clear n7
   go_upto_if 228 with fail
   go_cut []from 228 to 229 (fun wx=>wx=v25)
   case first=>
    go_wp2_with fail
    go_meet
    rfl
   case rest=>
    obtain rfl:=hcut
    apply_assumption
    exact hG _ _ _ _ _ _ _ _ _ _ _ _ _ _ _ _ _ _ _ _ _ _ _ _ _ _ _ _ _ _ _ _ _ _ _ _ _ _ _ _ _ _ _ _ _ _ _ _ _ _ _ _ _ _ _ _ _ _ _ _ _ _ _ _ _ _ _ _ _ _ _ _ _ _ _ _ _ _ _ _ _ _ _ _ _ _ _ _ _ _ _ _ _ _ _ _ _ _ _ _ _ _ _ _ _ _ _ _ _ _ _ _ _ _ _ _ _ _ _ _ _ _ _ _ _ _ _ _ _ _ _ _ _ _ _ _ _ _ _ _ _ _ _ _ _ _ _ _ _ _ _ _ _ _ _ _ _ _ _ _ _ _ _ _ _ _ _ _ _ _ _ _ _ _ _ _ _ _ _ _ _ _ _ _ _ _ _ _ _ _ _ _ _ _ _ _ _ _ _ _ _ _ _ _ _ _ _ _ _ _ _ _ _ _ _ _ _ _ _ _ _ _ _ _ _ _ _ _ _ _ _ _ _ _ _ _ _ _ _ _ _ _ _ _ _ _ _ _ _ _ _ _ _ _ _ _ _ _ _ _ _ _ _ _ _ _ _ _ _ _ _ _ _ _ _ _ _ _ _ _ _ _ _ _ _ _ _ _ _ _ _ _ _ _ _ _ _ _ _ _ _ _ _ _ _ _ _ ⟨⟨HNO.out,hpN,hqN,HNV.out,LP.out,LQ.out,EPv.out,EQv.out,yP,yQ,KLh.out,blN,blp,blq⟩,(hz0.then bv25),gk,⟨fl,(Blk.up hkz bv25)⟩,(hnz.mod bv25),(hpz.mod bv25),(hqz.mod bv25),(hdz.mod bv25),(hiz.mod bv25),(Blk.up rPz bv25),(Blk.up rQz bv25)⟩ (hm3.mod bv25) ((n4.mod bv25).mono (Nat.zero_le _)) (hm4.mod bv25) ((n6.mod bv25).mono (Nat.zero_le _))
set_option maxRecDepth 1000000 in
theorem k_privF(w0:World)(k n en d p q qi pv qv dv iv Nv bP bQ:Nat)(EP EQ:List Nat):KPF w0 k n en d p q qi pv qv dv iv Nv bP bQ EP EQ:=by
 intro wz u1_ u2_ u3_ u4_ u8_ u9_ u10_ u11_ u12_ u13_ u14_ u15_ u16_ u17_ u18_ u19_ u20_ u21_ u22_ u23_ u24_ u25_ u26_ u27_ u28_ u29_ u30_ u31_ u32_ u33_ u34_ u35_ u36_ u37_ u38_ u39_ u40_ u41_ u42_ u43_ u44_ u45_ u46_ u47_ u48_ u49_ u50_ u51_ u52_ u53_ u54_ u55_ u56_ u57_ u58_ u59_ u60_ u61_ u62_ u63_ u64_ u65_ u66_ u67_ u68_ u69_ u70_ u71_ u72_ u73_ u74_ u75_ u76_ u77_ u78_ u79_ u80_ u81_ u82_ u83_ u84_ u85_ u86_ u87_ u88_ u89_ u90_ u91_ u92_ u93_ u94_ u95_ u96_ u97_ u98_ u99_ u100_ u101_ u102_ u103_ u104_ u105_ u106_ u107_ u108_ u109_ u110_ u111_ u112_ u113_ u114_ u115_ u116_ u117_ u118_ u119_ u120_ u121_ u122_ u123_ u124_ u125_ u126_ u127_ u128_ u129_ u130_ u131_ u132_ u133_ u134_ u135_ u136_ u137_ u138_ u139_ u140_ u141_ u142_ u143_ u144_ u145_ u146_ u147_ u148_ u149_ u150_ u151_ u152_ u153_ u154_ u155_ u156_ u157_ u158_ u159_ u160_ u161_ u162_ u163_ u164_ u165_ u166_ u167_ u168_ u169_ u170_ u171_ u172_ u173_ u174_ u175_ u176_ u177_ u178_ u179_ u180_ u181_ u182_ u183_ u184_ u185_ u186_ u187_ u188_ u189_ u190_ u191_ u192_ u193_ u194_ u195_ u196_ u197_ u198_ u199_ u200_ u201_ u202_ u203_ u204_ u205_ u206_ u207_ u208_ u209_ u210_ u211_ u212_ u213_ u214_ u215_ u216_ u217_ u218_ u219_ u220_ u221_ u222_ u223_ u224_ u225_ u226_ u227_ u228_ u229_ u230_ u231_ u232_ u233_ u234_ u235_ u236_ u237_ u238_ u239_ u240_ u241_ u242_ u243_ u244_ u245_ u246_ u247_ u248_ u249_ u250_ u251_ u252_ u253_ u254_ u255_ u256_ u257_ u258_ u259_ u260_ u261_ u262_ u263_ u264_ u265_ u266_ u267_ u268_ u269_ u270_ u271_ u272_ u273_ u274_ u275_ u276_ u277_ u278_ u279_ u280_ u281_ u282_ u283_ u284_ u285_ u286_ u287_ u288_ u289_ u290_ u291_ u292_ u293_ u294_ u295_ u296_ u297_ u298_ u299_ u300_ u301_ u302_ u303_ u304_ u305_ u306_ u307_ u308_ u309_ A
 have K:=A.ok
 have p3:=K.kl.p3
 have q3:=K.kl.q3
 have hpN:=K.pN
 have hqN:=K.qN
 have HNO:=hide K.no
 have HNV:=hide K.nv
 have LP:=hide K.lP
 have LQ:=hide K.lQ
 have EPv:=hide K.eP
 have EQv:=hide K.eQ
 have yP:=K.yP
 have yQ:=K.yQ
 have KLh:=hide K.kl
 have blN:=K.bN
 have blp:=K.bp
 have blq:=K.bq
 have p1:1≤pv:=by omega
 have q1:1≤qv:=by omega
 have hpNl:=Nat.le_of_lt hpN
 have hqNl:=Nat.le_of_lt hqN
 have hcv:IntKind.u64.wrap (en:Int)=(en:Int):=IntWalk.u64_in _ (by have:=K.kl.eb;omega)
 obtain⟨fl,hkz⟩:=A.hk
 have hz0:=A.h0
 have gk:=A.gk
 have hnz:=A.hn
 have hpz:=A.hp
 have hqz:=A.hq
 have hdz:=A.hd
 have hiz:=A.hi
 have rPz:=A.rP
 have rQz:=A.rQ
 clear A K
 have bz:Mod [] wz wz:=Mod.refl _ _
 conv=>arg 2;whnf
 go_wp2_with fail
 refine(k_New _).mono ?_
 rintro e v1 ⟨x10,rfl,mm,n10⟩
 replace n10:=n10.mono bz.size
 have bv1:=bz.then mm
 clear mm bz
 go_wp2_with fail
 have c1v1:Mod [] v1 v1:=Mod.refl _ _
 refine(k_New _).mono ?_
 rintro e v2 ⟨x11,rfl,mm,n11⟩
 replace n11:=n11.mono c1v1.size
 have bv2:=c1v1.then mm
 clear mm c1v1
 go_wp2_with fail
 refine(k_Nat _ q _ (hqz.mod (bv1.then bv2))).mono ?_
 rintro e v3 ⟨t1,rfl,mm,nt⟩
 replace nt:=nt.mono bv2.size
 replace n11:=(n11.mod mm)
 have bv3:=bv2.then mm
 clear mm bv2
 go_wp2_with fail
 refine(k_Bytes _ _ t1 _ _ q _ nt (hqz.mod (bv1.then bv3)) (lt_size_self _) (by omega)).mono ?_
 rintro e v4 ⟨bka,Ba,rfl,mm,rwa,gba,lB,hBa,eB⟩
 clear nt
 replace n11:=(n11.mod mm)
 have bv4:=bv3.then mm
 clear mm bv3
 have LBa:=hide lB
 have EBa:=hide eB
 clear lB eB gba
 go_wp2_with fail
 refine(k_SetBytes2 _ _ x11 _ _ p _ _ Ba bv4 (hpz.mod bv1) n11 (GotB.row rwa hBa) (ApartN.row rwa _ _) (by rw[LBa.out];exact(size_pos (by omega))) (by rw[LBa.out];omega) (fit_lt LBa.out EBa.out)).mono ?_
 rintro e v5 ⟨r1,r2,rfl,bY,hor⟩
 rw[EBa.out]at hor
 clear n11
 clear rwa LBa EBa hBa
 clear bv4
 go_upto_region 59 with fail
 go_cut [266]from 265 to 265 (fun a wx=>wx=v5∧∃c,a=.bool c∧((c=false∧qv<pv∧r1=ptr x11∧NumAt v5 v1.heap.size x11 (wlen pv) qv)∨(c=true∧pv≤qv)))
 case first=>
  rcases hor with⟨hlt,rfl,rfl,h⟩|⟨hle,rfl,er,rfl⟩
  ·go_wp2_with fail
   go_meet
   exact⟨rfl,false,rfl,.inl ⟨rfl,hlt,(by first|trivial|rfl),h⟩⟩
  ·go_wp2_with fail
   go_meet
   exact⟨rfl,true,rfl,.inr ⟨rfl,hle⟩⟩
 case rest=>
  clear hor
  obtain⟨rfl,c,rfl,hc⟩:=hcut
  go_upto_if 266 with fail
  go_cut []from 265 to 291 (fun wx=>Mod [] wz wx∧∃nw,NumAt wx wz.heap.size x10 nw (if pv≤qv then qv-pv else pv-qv))
  case first=>
   rcases hc with⟨rfl,hlt,rfl,n11⟩|⟨rfl,hle⟩
   ·go_wp2_with fail
    have s11:=Sep.new n10 bY n11
    replace n10:=(n10.mod bY)
    have d2wc:=bv1.then bY
    clear bv1 bY
    refine(k_Expand _ _ x10 _ _ p _ n10 (hpz.mod d2wc) (Nat.zero_le _)).mono ?_
    rintro e v26 ⟨rfl,f,n'⟩
    have nn_:=n' d2wc.size
    have bv26:=f.back d2wc n10
    have sp:=f.sep s11 n11
    replace n11:=f.num s11 n11
    replace s11:=sp
    clear sp
    clear n10 n' f d2wc
    have n10:=nn_
    clear nn_
    go_wp2_with fail
    refine(k_Sub _ _ x10 _ p _ _ x11 _ bv26 hpz n10 n11 (by omega)).mono ?_
    rintro e v27 ⟨rfl,f,-,n'⟩
    have nn_:=n'
    have bv27:=f.back bv26 n10
    clear n10 n' f bv26
    have n10:=nn_
    clear nn_
    clear n11
    go_wp2_with fail
    go_meet
    rw[subV_zero (by omega)]at n10
    rw[if_neg (by omega)]
    exact⟨bv27,_,n10⟩
   ·have hne:=KLh.out.ne
    have hpq:pv<qv:=by omega
    go_wp2_with fail
    refine(k_New _).mono ?_
    rintro e v46 ⟨x12,rfl,mm,n12⟩
    replace n12:=n12.mono bY.size
    have bv46:=bY.then mm
    clear mm bY
    go_wp2_with fail
    refine(k_Nat _ p _ (hpz.mod (bv1.then bv46))).mono ?_
    rintro e v47 ⟨t1,rfl,mm,nt⟩
    replace nt:=nt.mono bv46.size
    replace n12:=(n12.mod mm)
    have bv47:=bv46.then mm
    clear mm bv46
    go_wp2_with fail
    refine(k_Bytes _ _ t1 _ _ p _ nt (hpz.mod (bv1.then bv47)) (lt_size_self _) (by omega)).mono ?_
    rintro e v48 ⟨bka,Ba,rfl,mm,rwa,gba,lB,hBa,eB⟩
    clear nt
    replace n12:=(n12.mod mm)
    have bv48:=bv47.then mm
    clear mm bv47
    have LBa:=hide lB
    have EBa:=hide eB
    clear lB eB gba
    go_wp2_with fail
    refine(k_SetBytes _ _ x12 _ _ q _ _ Ba n12 (hqz.mod (bv1.then bv48)) (GotB.row rwa hBa) (ApartN.row rwa _ _) (MSep.base bv48 (hqz.mod bv1) n12) (by rw[LBa.out];exact(fit_le (Nat.le_of_lt hpq))) (by rw[LBa.out];exact(size_pos (by omega))) (by rw[EBa.out];exact hpq)).mono ?_
    rintro e v49 ⟨rfl,f,n'⟩
    rw[EBa.out]at n'
    have nn_:=n' bv48.size
    have bv49:=f.back bv48 n12
    clear n12 n' f bv48
    have n12:=nn_
    clear nn_
    clear rwa LBa EBa hBa
    go_wp2_with fail
    have s12:=Sep.new n10 bv49 n12
    replace n10:=(n10.mod bv49)
    have d2v49:=bv1.then bv49
    clear bv1 bv49
    refine(k_Expand _ _ x10 _ _ q _ n10 (hqz.mod d2v49) (Nat.zero_le _)).mono ?_
    rintro e v50 ⟨rfl,f,n'⟩
    have nn_:=n' d2v49.size
    have bv50:=f.back d2v49 n10
    have sp:=f.sep s12 n12
    replace n12:=f.num s12 n12
    replace s12:=sp
    clear sp
    clear n10 n' f d2v49
    have n10:=nn_
    clear nn_
    go_wp2_with fail
    refine(k_Sub _ _ x10 _ q _ _ x12 _ bv50 hqz n10 n12 (by omega)).mono ?_
    rintro e v51 ⟨rfl,f,-,n'⟩
    have nn_:=n'
    have bv51:=f.back bv50 n10
    clear n10 n' f bv50
    have n10:=nn_
    clear nn_
    clear n12
    go_wp2_with fail
    go_meet
    rw[subV_zero (by omega)]at n10
    rw[if_pos (by omega)]
    exact⟨bv51,_,n10⟩
  case rest=>
   clear hc
   obtain⟨bY2,nw,n10⟩:=hcut
   obtain⟨D,hD⟩:∃D,D=blen (if pv≤qv then qv-pv else pv-qv):=⟨_,rfl⟩
   obtain⟨BN,hBN⟩:∃B,B=blen Nv:=⟨_,rfl⟩
   obtain⟨BD,hBD⟩:∃B,B=blen dv:=⟨_,rfl⟩
   have near:((BN/2:Nat):Int)-100<(D:Int):=by have:=KLh.out.near;rw[←HNV.out,←hD,←hBN]at this;omega
   have long:BN/2<BD:=by have:=KLh.out.long;rw[←HNV.out,←hBD,←hBN]at this;exact this
   have HD:=hide hD
   have HBN:=hide hBN
   have HBD:=hide hBD
   have bBN:BN≤4000:=by rw[hBN];exact blN
   have e1:((BN:Int)).tdiv 2=((BN/2:Nat):Int):=rfl
   obtain⟨H,hH⟩:∃H,H=BN/2:=⟨_,rfl⟩
   rw[←hH]at near long e1
   have bH:H≤2000:=by omega
   clear hH hD hBN hBD
   go_wp2_with fail
   refine(k_BitLenVar _ _ x10 _ _ n10).mono ?_
   rintro e w' ⟨rfl,rfl⟩
   rw[←HD.out]
   go_wp2_with fail
   refine(k_BitLen _ n _ (hnz.mod bY2)).mono ?_
   rintro e w' ⟨rfl,rfl⟩
   rw[←HBN.out]
   have kc:=PKey.c2 (Blk.up hkz bY2)
   have g1:¬(D:Int)≤(H:Int)-100:=by omega
   have g2:¬(BD:Int)≤(H:Int):=by omega
   have e2:IntKind.i64.wrap ((H:Int)-100)=(H:Int)-100:=IntWalk.i64_in _ (by omega)
   have e3:IntKind.i64.wrap (H:Int)=(H:Int):=IntWalk.i64_in _ (by omega)
   go_wp2_with fail
   refine(k_BitLenVar _ _ d _ _ (hdz.mod bY2)).mono ?_
   rintro e w' ⟨rfl,rfl⟩
   rw[←HBD.out]
   go_wp2_with fail
   refine(k_BitLen _ n _ (hnz.mod bY2)).mono ?_
   rintro e w' ⟨rfl,rfl⟩
   rw[←HBN.out]
   go_wp2_with fail
   go_ret
   exact⟨rfl,(hz0.then bY2),fl,(Blk.up hkz bY2)⟩
set_option maxRecDepth 1000000 in
theorem k_privG(w0:World)(k n en d p q qi pv qv dv iv Nv bP bQ:Nat)(EP EQ:List Nat)(hF:KPF w0 k n en d p q qi pv qv dv iv Nv bP bQ EP EQ):KPG w0 k n en d p q qi pv qv dv iv Nv bP bQ EP EQ:=by
 intro m3 x4 m4 x6 wz u1_ u2_ u3_ u4_ u8_ u9_ u10_ u11_ u12_ u13_ u15_ u17_ u20_ u21_ u22_ u23_ u24_ u25_ u26_ u27_ u28_ u29_ u30_ u31_ u32_ u33_ u34_ u35_ u36_ u37_ u38_ u39_ u40_ u41_ u42_ u43_ u44_ u45_ u46_ u47_ u48_ u49_ u50_ u51_ u52_ u53_ u54_ u55_ u56_ u57_ u58_ u59_ u60_ u61_ u62_ u63_ u64_ u65_ u66_ u67_ u68_ u69_ u70_ u71_ u72_ u73_ u74_ u75_ u76_ u77_ u78_ u79_ u80_ u81_ u82_ u83_ u84_ u85_ u86_ u87_ u88_ u89_ u90_ u91_ u92_ u93_ u94_ u95_ u96_ u97_ u98_ u99_ u100_ u101_ u102_ u103_ u104_ u105_ u106_ u107_ u108_ u109_ u110_ u111_ u112_ u113_ u114_ u115_ u116_ u117_ u118_ u119_ u120_ u121_ u122_ u123_ u124_ u125_ u126_ u127_ u128_ u129_ u130_ u131_ u132_ u133_ u134_ u135_ u136_ u137_ u138_ u139_ u140_ u141_ u142_ u143_ u144_ u145_ u146_ u147_ u148_ u149_ u150_ u151_ u152_ u153_ u154_ u155_ u156_ u157_ u158_ u159_ u160_ u161_ u162_ u163_ u164_ u165_ u166_ u167_ u168_ u169_ u170_ u171_ u172_ u173_ u174_ u175_ u176_ u177_ u178_ u179_ u180_ u181_ u182_ u183_ u184_ u185_ u186_ u187_ u188_ u189_ u190_ u191_ u192_ u193_ u194_ u195_ u196_ u197_ u198_ u199_ u200_ u201_ u202_ u203_ u204_ u205_ u206_ u207_ u208_ u209_ u210_ u211_ u212_ u213_ u214_ u215_ u216_ u217_ u218_ u219_ u220_ u221_ u222_ u223_ u224_ u225_ u226_ u227_ u228_ u229_ u230_ u231_ u232_ u233_ u234_ u235_ u236_ u237_ u238_ u239_ u240_ u241_ u242_ u243_ u244_ u245_ u246_ u247_ u248_ u249_ u250_ u251_ u252_ u253_ u254_ u255_ u256_ u257_ u258_ u259_ u260_ u261_ u262_ u263_ u264_ u265_ u266_ u267_ u268_ u269_ u270_ u271_ u272_ u273_ u274_ u275_ u276_ u277_ u278_ u279_ u280_ u281_ u282_ u283_ u284_ u285_ u286_ u287_ u288_ u289_ u290_ u291_ u292_ u293_ u294_ u295_ u296_ u297_ u298_ u299_ u300_ u301_ u302_ u303_ u304_ u305_ u306_ u307_ u308_ u309_ A hm3 n4 hm4 n6
 have K:=A.ok
 have p3:=K.kl.p3
 have q3:=K.kl.q3
 have hpN:=K.pN
 have hqN:=K.qN
 have HNO:=hide K.no
 have HNV:=hide K.nv
 have LP:=hide K.lP
 have LQ:=hide K.lQ
 have EPv:=hide K.eP
 have EQv:=hide K.eQ
 have yP:=K.yP
 have yQ:=K.yQ
 have KLh:=hide K.kl
 have blN:=K.bN
 have blp:=K.bp
 have blq:=K.bq
 have p1:1≤pv:=by omega
 have q1:1≤qv:=by omega
 have hpNl:=Nat.le_of_lt hpN
 have hqNl:=Nat.le_of_lt hqN
 have hcv:IntKind.u64.wrap (en:Int)=(en:Int):=IntWalk.u64_in _ (by have:=K.kl.eb;omega)
 obtain⟨fl,hkz⟩:=A.hk
 have hz0:=A.h0
 have gk:=A.gk
 have hnz:=A.hn
 have hpz:=A.hp
 have hqz:=A.hq
 have hdz:=A.hd
 have hiz:=A.hi
 have rPz:=A.rP
 have rQz:=A.rQ
 clear A K
 have bz:Mod [] wz wz:=Mod.refl _ _
 conv=>arg 2;whnf
 go_wp2_with fail
 have kc:=PKey.c2 (Blk.up hkz bz)
 go_region_held3 (fun w'=>w'.cell? ⟨k,2,none⟩=some (ptr d)∧Mod [] wz w')
  (first|exact⟨cell_up kc mm,mm⟩|exact⟨cell_up kc mm1,mm1⟩|exact KHeld.drew ⟨kc,Mod.refl _ _⟩|assumption)
  (first|(go_at_call 84;refine(k_New _).mono ?_;rintro e v1 ⟨x8,rfl,mm1,n8⟩;replace mm1:Mod [] wz v1:=mm1.ofDrew)|(go_at_call 90;replace n8:NumAt _ wz.heap.size _ _ _:=n8;refine(k_Mod _ _ x8 _ _ _ d _ _ m3 _ mm1 (hm3.mod bz) n8 (NumAt.mod (hdz.mod bz) mm1) (Sep.new (hdz.mod bz) mm1 n8).symm).mono ?_;rintro e v2 ⟨rfl,-,mm,n2⟩))
 clear kc n8 mm1
 have n8:=n2
 clear n2
 replace n8:=n8.mono bz.size
 have bv2:=bz.then mm
 clear mm bz
 go_wp2_with fail
 refine(k_Equal _ _ _ x8 x4 _ _ _ n8 (n4.mod bv2)).mono ?_
 rintro e v3 ⟨rfl,mm⟩
 rw[eqB_self]
 clear n8
 have bv3:=bv2.then mm
 clear mm bv2
 go_wp2_with fail
 have kc:=PKey.c2 (Blk.up hkz bv3)
 go_region_held3 (fun w'=>w'.cell? ⟨k,2,none⟩=some (ptr d)∧Mod [] v3 w')
  (first|exact⟨cell_up kc mm,mm⟩|exact⟨cell_up kc mm1,mm1⟩|exact KHeld.drew ⟨kc,Mod.refl _ _⟩|assumption)
  (first|(go_at_call 84;refine(k_New _).mono ?_;rintro e v4 ⟨x9,rfl,mm1,n9⟩;replace mm1:Mod [] v3 v4:=mm1.ofDrew)|(go_at_call 90;replace n9:NumAt _ v3.heap.size _ _ _:=n9;refine(k_Mod _ _ x9 _ _ _ d _ _ m4 _ mm1 (hm4.mod bv3) n9 (NumAt.mod (hdz.mod bv3) mm1) (Sep.new (hdz.mod bv3) mm1 n9).symm).mono ?_;rintro e v5 ⟨rfl,-,mm,n2⟩))
 clear kc n9 mm1
 have n9:=n2
 clear n2
 replace n9:=n9.mono bv3.size
 have bv5:=bv3.then mm
 clear mm bv3
 go_wp2_with fail
 refine(k_Equal _ _ _ x9 x6 _ _ _ n9 (n6.mod bv5)).mono ?_
 rintro e v6 ⟨rfl,mm⟩
 rw[eqB_self]
 clear n9
 have bv6:=bv5.then mm
 clear mm bv5
 go_upto_if 252 with fail
 go_cut []from 252 to 253 (fun wx=>wx=v6)
 case first=>
  go_wp2_with fail
  go_meet
  rfl
 case rest=>
  obtain rfl:=hcut
  apply_assumption
  exact hF _ _ _ _ _ _ _ _ _ _ _ _ _ _ _ _ _ _ _ _ _ _ _ _ _ _ _ _ _ _ _ _ _ _ _ _ _ _ _ _ _ _ _ _ _ _ _ _ _ _ _ _ _ _ _ _ _ _ _ _ _ _ _ _ _ _ _ _ _ _ _ _ _ _ _ _ _ _ _ _ _ _ _ _ _ _ _ _ _ _ _ _ _ _ _ _ _ _ _ _ _ _ _ _ _ _ _ _ _ _ _ _ _ _ _ _ _ _ _ _ _ _ _ _ _ _ _ _ _ _ _ _ _ _ _ _ _ _ _ _ _ _ _ _ _ _ _ _ _ _ _ _ _ _ _ _ _ _ _ _ _ _ _ _ _ _ _ _ _ _ _ _ _ _ _ _ _ _ _ _ _ _ _ _ _ _ _ _ _ _ _ _ _ _ _ _ _ _ _ _ _ _ _ _ _ _ _ _ _ _ _ _ _ _ _ _ _ _ _ _ _ _ _ _ _ _ _ _ _ _ _ _ _ _ _ _ _ _ _ _ _ _ _ _ _ _ _ _ _ _ _ _ _ _ _ _ _ _ _ _ _ _ _ _ _ _ _ _ _ _ _ _ _ _ _ _ _ _ _ _ _ _ _ _ _ _ _ _ _ _ _ _ _ _ _ _ _ _ _ _ _ _ _ _ _ _ _ ⟨⟨HNO.out,hpN,hqN,HNV.out,LP.out,LQ.out,EPv.out,EQv.out,yP,yQ,KLh.out,blN,blp,blq⟩,(hz0.then bv6),gk,⟨fl,(Blk.up hkz bv6)⟩,(hnz.mod bv6),(hpz.mod bv6),(hqz.mod bv6),(hdz.mod bv6),(hiz.mod bv6),(Blk.up rPz bv6),(Blk.up rQz bv6)⟩
set_option maxRecDepth 1000000 in
theorem k_checkPriv(w0 w:World)(k n en d p q qi pv qv dv iv Nv bP bQ:Nat)(EP EQ:List Nat)(fl:Bool)(h0:Mod [] w0 w)(gk:w0.heap.size≤k)
 (hk:PKey w k n en d p q (sl bP 0 EP.length EP.length) (sl bQ 0 EQ.length EQ.length) qi fl) (hNv:Nv=pv*qv)
 (hn:MdAt w0 n Nv) (hp:MdAt w0 p pv) (hq:MdAt w0 q qv) (hd:NumAt w0 0 d (wlen Nv) dv) (hi:NumAt w0 0 qi (wlen pv) iv)
 (rP:Blk w0 bP 5 (EP.map u8)) (rQ:Blk w0 bQ 5 (EQ.map u8)) (yP:Bytes EP) (yQ:Bytes EQ) (lP:EP.length=(blen (pv-1)+7)/8) (lQ:EQ.length=(blen (qv-1)+7)/8)
 (eP:bval EP=dv%(pv-1)) (eQ:bval EQ=dv%(qv-1)) (KL:KeyLaw pv qv en dv iv) :
 Calls Tryz.prog 119 #[ptr k] w fun e w'=>e=.returned .nilIface∧Mod [] w0 w'∧∃fl,PKey w' k n en d p q (sl bP 0 EP.length EP.length) (sl bQ 0 EQ.length EQ.length) qi fl:=by
 have p3:=KL.p3
 have q3:=KL.q3
 have hNo:Nv%2=1:=by rw[hNv,Nat.mul_mod,KL.po,KL.qo]
 have hpN:pv<Nv:=by rw[hNv];have h:=(Nat.mul_lt_mul_left (a:=pv) (b:=1) (c:=qv) (by omega)).2 (by omega);omega
 have hqN:qv<Nv:=by rw[hNv];have h:=(Nat.mul_lt_mul_right (a:=qv) (b:=1) (c:=pv) (by omega)).2 (by omega);omega
 have blN:blen Nv≤4000:=by rw[hNv];exact KL.nl
 have blp:blen pv≤4000:=Nat.le_trans (blen_mono (Nat.le_of_lt hpN)) blN
 have blq:blen qv≤4000:=Nat.le_trans (blen_mono (Nat.le_of_lt hqN)) blN
 have HK:=hide (show KOk pv qv en dv iv Nv EP EQ from⟨hNo,hpN,hqN,hNv,lP,lQ,eP,eQ,yP,yQ,KL,blN,blp,blq⟩)
 have hB:KPB w0 k n en d p q qi pv qv dv iv Nv bP bQ EP EQ:=k_privB w0 k n en d p q qi pv qv dv iv Nv bP bQ EP EQ (k_privC w0 k n en d p q qi pv qv dv iv Nv bP bQ EP EQ (k_privD w0 k n en d p q qi pv qv dv iv Nv bP bQ EP EQ (k_privE w0 k n en d p q qi pv qv dv iv Nv bP bQ EP EQ (k_privG w0 k n en d p q qi pv qv dv iv Nv bP bQ EP EQ (k_privF w0 k n en d p q qi pv qv dv iv Nv bP bQ EP EQ)))))
 have HB:=hide hB
 have k0:=hk.c0
 have f8:=hk.frozen 8
 have c8:=PKey.c8 hk
 have knil:=eql_nil bP 0 EP.length EP.length
 clear hNo hNv lP lQ eP eQ KL hB blN blp blq hpN hqN yP yQ p3 q3
 go_enter Tryz.func119,Tryz.ntmps119
 have hk1:=PKey.set hk true
 have h01:Mod [] w0 (w.setCell ⟨k,8,none⟩ (.bool true)):=Mod.trans (U:=[]) h0 ((Mod.refl [k] w).setCell _ _ (by simp)) (by simp) (by simp;omega)
 go_wp2_with fail
 refine(k_check _ k n en Nv hk1.lt hk1.c0 hk1.c1 (hn.mod h01) HK.out.no HK.out.kl.e2 HK.out.kl.eo HK.out.kl.eb).mono ?_
 rintro e w2 ⟨f,rfl,m2⟩
 have h02:=h01.then m2
 have hk2:=Blk.mod hk1 m2 (by simp)
 clear hk1 h01 m2 k0 f8 c8
 have f8:=hk2.frozen 8
 have hkf:=PKey.set hk2 false
 have h02f:Mod [] w0 (w2.setCell ⟨k,8,none⟩ (.bool false)):=Mod.trans (U:=[]) h02 ((Mod.refl [k] w2).setCell _ _ (by simp)) (by simp) (by simp;omega)
 have c8:=PKey.c8 hk2
 go_upto_if 42 with fail
 go_cut []from 42 to 45 (fun wx=>Mod [] w0 wx∧∃b,PKey wx k n en d p q (sl bP 0 EP.length EP.length) (sl bQ 0 EQ.length EQ.length) qi b)
 case first=>
  go_wp2_with fail
  all_goals go_meet
  all_goals first|exact⟨h02f,_,hkf⟩|exact⟨h02,_,hk2⟩
 case rest=>
  obtain⟨h03,b,hk3⟩:=hcut
  clear hk2 hkf h02f h02 c8 f8
  obtain⟨w3,rfl⟩:∃w3:World,w3=wc:=⟨_,rfl⟩
  have k5:=PKey.c5 hk3
  have k0:=PKey.c0 hk3
  have k3:=PKey.c3 hk3
  have k4:=PKey.c4 hk3
  have f8:=hk3.frozen 8
  have c8:=PKey.c8 hk3
  obtain⟨bp,hbp⟩:∃bp,bp=blen pv:=⟨_,rfl⟩
  obtain⟨bq,hbq⟩:∃bq,bq=blen qv:=⟨_,rfl⟩
  have HBP:=hide hbp
  have HBQ:=hide hbq
  clear hbp hbq
  go_wp2_with fail
  refine(k_BitLen _ p _ (hp.mod h03)).mono ?_
  rintro e w' ⟨rfl,rfl⟩
  rw[←HBP.out]
  go_wp2_with fail
  refine(k_BitLen _ q _ (hq.mod h03)).mono ?_
  rintro e w' ⟨rfl,rfl⟩
  rw[←HBQ.out]
  have hkf:=PKey.set hk3 false
  have h03f:Mod [] w0 (w3.setCell ⟨k,8,none⟩ (.bool false)):=Mod.trans (U:=[]) h03 ((Mod.refl [k] w3).setCell _ _ (by simp)) (by simp) (by simp;omega)
  go_upto_if 71 with fail
  go_cut []from 71 to 74 (fun wx=>Mod [] w0 wx∧∃b,PKey wx k n en d p q (sl bP 0 EP.length EP.length) (sl bQ 0 EQ.length EQ.length) qi b)
  case first=>
   go_wp2_with fail
   all_goals go_meet
   all_goals first|exact⟨h03f,_,hkf⟩|exact⟨h03,_,hk3⟩
  case rest=>
   clear hk3 hkf h03f h03 c8 f8 k5 k0 k3 k4 knil
   obtain⟨hz0,b,hkz⟩:=hcut
   apply_assumption
   exact HB.out _ _ _ _ _ _ _ _ _ _ _ _ _ _ _ _ _ _ _ _ _ _ _ _ _ _ _ _ _ _ _ _ _ _ _ _ _ _ _ _ _ _ _ _ _ _ _ _ _ _ _ _ _ _ _ _ _ _ _ _ _ _ _ _ _ _ _ _ _ _ _ _ _ _ _ _ _ _ _ _ _ _ _ _ _ _ _ _ _ _ _ _ _ _ _ _ _ _ _ _ _ _ _ _ _ _ _ _ _ _ _ _ _ _ _ _ _ _ _ _ _ _ _ _ _ _ _ _ _ _ _ _ _ _ _ _ _ _ _ _ _ _ _ _ _ _ _ _ _ _ _ _ _ _ _ _ _ _ _ _ _ _ _ _ _ _ _ _ _ _ _ _ _ _ _ _ _ _ _ _ _ _ _ _ _ _ _ _ _ _ _ _ _ _ _ _ _ _ _ _ _ _ _ _ _ _ _ _ _ _ _ _ _ _ _ _ _ _ _ _ _ _ _ _ _ _ _ _ _ _ _ _ _ _ _ _ _ _ _ _ _ _ _ _ _ _ _ _ _ _ _ _ _ _ _ _ _ _ _ _ _ _ _ _ _ _ _ _ _ _ _ _ _ _ _ _ _ _ _ _ _ _ _ _ _ _ _ _ _ _ _ _ _ _ _ _ _ _ _ _ _ _ _ _ _ _ _ ⟨HK.out,hz0,gk,⟨b,hkz⟩,hn.mod hz0,hp.mod hz0,hq.mod hz0,hd.mod hz0,hi.mod hz0,Blk.up rP hz0,Blk.up rQ hz0⟩
end Go.Proofs.YtfgmnbmnpihjdaaGreatDoor
