/- Lemmas of mine for the walk and its plain laws: Sha512R Sha512B -/
import Derived.Test.YtfgmnbmnpihjdaaGreatDoorM07
import Derived.Test.YtfgmnbmnpihjdaaGreatDoorM02
set_option linter.all false
set_option exponentiation.threshold 7000000
set_option maxHeartbeats 4000000
namespace Go.Proofs.YtfgmnbmnpihjdaaGreatDoor
open Go.RowKit
set_option maxRecDepth 1000000 in
theorem rnA512(Q:Exit→Act→World→Prop)(w wr:World)(pb o gk cc i:Nat)(x0 x1 x2 x3 x4 x5 x6 x7:Int)(L:List Nat)(us K Hs:List Int)(u0_ u2_ u3_ u5_ u6_ u7_ u8_ u9_ u10_ u11_ u12_ u21_ u22_ u23_ u24_ u25_ u26_ u27_ u28_ u29_ u30_ u31_ u32_ u33_ u34_ u35_ u36_ u37_ u38_ u39_ u40_ u41_ u42_ u43_ u44_ u45_ u46_ u47_ u48_ u49_ u50_ u51_ u52_ u53_ u54_ u55_ u56_ u57_ u58_ u59_ u60_ u61_ u62_ u63_ u64_ u65_ u66_ u67_ u68_ u69_ u70_ u71_ u72_ u73_ u74_ u75_ u76_ u77_ u78_ u79_ u81_ u82_ u83_ u84_ u85_ u86_ u87_ u88_ u89_ u90_ u91_ u92_ u93_ u94_ u95_ u96_ u97_ u98_ u99_ u100_ u101_ u102_ u103_ u104_ u105_ u106_ u107_ u108_ u109_ u110_ u111_ u112_ u113_ u114_ u115_ u116_ u117_ u118_ u119_ u120_ u121_ u122_ u123_ u124_ u125_ u126_ u127_ u128_ u129_ u130_ u131_ u132_ u133_ u134_ u135_ u136_ u137_ u138_ u139_ u140_ u141_ u142_ u143_ u144_ u145_ u146_ u147_ u148_ u149_ u150_ u151_ u152_ u153_ u154_ u155_ u156_ u157_ u158_ u159_ u160_ u161_ u162_ u163_ u164_ u165_ u166_ u167_ u168_ u169_ u170_ u171_ u172_ u173_ u174_ u175_ u176_ u177_ u178_ u179_ u180_ u181_ u182_ u183_ u184_ u185_ u186_ u187_ u188_ u189_ u190_ u191_ u192_ u193_ u194_ u195_ u196_ u197_ u198_ u199_ u200_ u201_ u202_ u203_ u204_ u205_ u206_ u207_ u208_ u209_ u210_ u211_ u212_ u213_ u214_ u215_ u216_ u217_ u218_ u219_ u220_ u221_ u222_ u223_ u224_ u225_ u226_ u227_ u228_ u229_ u230_ u231_ u232_ u233_ u234_ u235_ u236_ u237_ u238_ u239_ u240_ u241_ u242_ u243_ u244_ u245_ u246_ u247_ u248_ u249_ u250_ u251_ u252_ u253_ u254_ u255_ u256_ u257_ u258_ u259_ u260_ u261_ u262_ u263_ u264_ u265_ u266_ u267_ u268_ u269_ u270_ u271_ u272_ u273_ u274_ u275_ u276_ u277_ u278_ u279_ u280_ u281_ u282_ u283_ u284_ u285_ u286_ u287_ u288_ u289_ u290_ u291_ u292_ u293_ u294_ u295_ u296_ u297_ u298_ u299_ u300_ u301_ u302_ u303_ u304_ u305_ u306_ u307_ u308_ u309_ u310_ u311_ u312_ u313_ u314_:Value)(h2:i<16)(h1:i<80)(hn:128≤gk)(hcc:gk≤cc)(hbk:pb≠w.heap.size)
 (hpl:∀i,i<128→∀w',Mod [] w w'→w'.cell? ⟨pb,o+i,none⟩=some (u8 (nth L i))) (hm:Mod [] w wr) (lu:us.length=80) (hu:Blk wr w.heap.size 241 (us.map v64)) (hsc:Sch512 L i us)
 (hrn:rnd512 K L Hs i=[x0,x1,x2,x3,x4,x5,x6,x7]) (hK:Blk w 6 241 (K.map v64)) (lK:K.length=80)
 (hQ:∀(s21 s22 s23 s24 s25 s26 s27 s28 s81 s82 s83 s84 s85 s86 s87 s88 s89 s90 s91 s92 s93 s94 s95 s96 s97 s98 s99 s100 s101 s102 s103 s104 s105 s106 s107 s108 s109 s110 s111 s112 s113 s114 s115 s116 s117 s118 s119 s120 s121 s122 s123 s124 s125 s126 s127 s128 s129 s130 s131 s132 s133 s134 s135 s136 s137 s138 s139 s140 s141 s142 s143 s144 s145 s146 s147 s148 s149 s150 s151 s152 s153 s154 s155 s156 s157 s158 s159 s160 s161 s162 s163 s164 s165 s166 s167 s168 s169 s170 s171 s172 s173 s174 s175 s176 s177 s178 s179 s180 s181 s182 s183 s184 s185 s186 s187 s188 s189 s190 s191 s192 s193 s194 s195 s196 s197 s198 s199 s200 s201 s202 s203 s204 s205 s206 s207 s208 s209 s210 s211 s212 s213 s214 s215 s216 s217 s218 s219 s220 s221 s222 s223 s224 s225 s226 s227 s228 s229 s230 s231 s232 s233 s234 s235 s236 s237 s238 s239 s240 s241 s242 s243 s244 s245 s246 s247 s248:Value) (y0 y4:Int) (us2:List Int) (wn:World),Mod [] w wn→us2.length=80→Blk wn w.heap.size 241 (us2.map v64)→Sch512 L (i+1) us2→rnd512 K L Hs (i+1)=[y0,x0,x1,x2,y4,x4,x5,x6]→Q .normal {tmps:=#[u0_,sl pb o gk cc,u2_,u3_,.pointer (some ⟨w.heap.size,0,none⟩),u5_,u6_,u7_,u8_,u9_,u10_,u11_,u12_,v64 y0,v64 x0,v64 x1,v64 x2,v64 y4,v64 x4,v64 x5,v64 x6,s21,s22,s23,s24,s25,s26,s27,s28,u29_,u30_,u31_,u32_,u33_,u34_,u35_,u36_,u37_,u38_,u39_,u40_,u41_,u42_,u43_,u44_,u45_,u46_,u47_,u48_,u49_,u50_,u51_,u52_,u53_,u54_,u55_,u56_,u57_,u58_,u59_,u60_,u61_,u62_,u63_,u64_,u65_,u66_,u67_,u68_,u69_,u70_,u71_,u72_,u73_,u74_,u75_,u76_,u77_,u78_,u79_,.int .i64 ((i:Int)+1),s81,s82,s83,s84,s85,s86,s87,s88,s89,s90,s91,s92,s93,s94,s95,s96,s97,s98,s99,s100,s101,s102,s103,s104,s105,s106,s107,s108,s109,s110,s111,s112,s113,s114,s115,s116,s117,s118,s119,s120,s121,s122,s123,s124,s125,s126,s127,s128,s129,s130,s131,s132,s133,s134,s135,s136,s137,s138,s139,s140,s141,s142,s143,s144,s145,s146,s147,s148,s149,s150,s151,s152,s153,s154,s155,s156,s157,s158,s159,s160,s161,s162,s163,s164,s165,s166,s167,s168,s169,s170,s171,s172,s173,s174,s175,s176,s177,s178,s179,s180,s181,s182,s183,s184,s185,s186,s187,s188,s189,s190,s191,s192,s193,s194,s195,s196,s197,s198,s199,s200,s201,s202,s203,s204,s205,s206,s207,s208,s209,s210,s211,s212,s213,s214,s215,s216,s217,s218,s219,s220,s221,s222,s223,s224,s225,s226,s227,s228,s229,s230,s231,s232,s233,s234,s235,s236,s237,s238,s239,s240,s241,s242,s243,s244,s245,s246,s247,s248,u249_,u250_,u251_,u252_,u253_,u254_,u255_,u256_,u257_,u258_,u259_,u260_,u261_,u262_,u263_,u264_,u265_,u266_,u267_,u268_,u269_,u270_,u271_,u272_,u273_,u274_,u275_,u276_,u277_,u278_,u279_,u280_,u281_,u282_,u283_,u284_,u285_,u286_,u287_,u288_,u289_,u290_,u291_,u292_,u293_,u294_,u295_,u296_,u297_,u298_,u299_,u300_,u301_,u302_,u303_,u304_,u305_,u306_,u307_,u308_,u309_,u310_,u311_,u312_,u313_,u314_],defers:=[]} wn) :
 (((Tryz.f194.body.bind (loopAt 5)).getD .skip)).wp Tryz.prog Q {tmps:=#[u0_,sl pb o gk cc,u2_,u3_,.pointer (some ⟨w.heap.size,0,none⟩),u5_,u6_,u7_,u8_,u9_,u10_,u11_,u12_,v64 x0,v64 x1,v64 x2,v64 x3,v64 x4,v64 x5,v64 x6,v64 x7,u21_,u22_,u23_,u24_,u25_,u26_,u27_,u28_,u29_,u30_,u31_,u32_,u33_,u34_,u35_,u36_,u37_,u38_,u39_,u40_,u41_,u42_,u43_,u44_,u45_,u46_,u47_,u48_,u49_,u50_,u51_,u52_,u53_,u54_,u55_,u56_,u57_,u58_,u59_,u60_,u61_,u62_,u63_,u64_,u65_,u66_,u67_,u68_,u69_,u70_,u71_,u72_,u73_,u74_,u75_,u76_,u77_,u78_,u79_,i64 i,u81_,u82_,u83_,u84_,u85_,u86_,u87_,u88_,u89_,u90_,u91_,u92_,u93_,u94_,u95_,u96_,u97_,u98_,u99_,u100_,u101_,u102_,u103_,u104_,u105_,u106_,u107_,u108_,u109_,u110_,u111_,u112_,u113_,u114_,u115_,u116_,u117_,u118_,u119_,u120_,u121_,u122_,u123_,u124_,u125_,u126_,u127_,u128_,u129_,u130_,u131_,u132_,u133_,u134_,u135_,u136_,u137_,u138_,u139_,u140_,u141_,u142_,u143_,u144_,u145_,u146_,u147_,u148_,u149_,u150_,u151_,u152_,u153_,u154_,u155_,u156_,u157_,u158_,u159_,u160_,u161_,u162_,u163_,u164_,u165_,u166_,u167_,u168_,u169_,u170_,u171_,u172_,u173_,u174_,u175_,u176_,u177_,u178_,u179_,u180_,u181_,u182_,u183_,u184_,u185_,u186_,u187_,u188_,u189_,u190_,u191_,u192_,u193_,u194_,u195_,u196_,u197_,u198_,u199_,u200_,u201_,u202_,u203_,u204_,u205_,u206_,u207_,u208_,u209_,u210_,u211_,u212_,u213_,u214_,u215_,u216_,u217_,u218_,u219_,u220_,u221_,u222_,u223_,u224_,u225_,u226_,u227_,u228_,u229_,u230_,u231_,u232_,u233_,u234_,u235_,u236_,u237_,u238_,u239_,u240_,u241_,u242_,u243_,u244_,u245_,u246_,u247_,u248_,u249_,u250_,u251_,u252_,u253_,u254_,u255_,u256_,u257_,u258_,u259_,u260_,u261_,u262_,u263_,u264_,u265_,u266_,u267_,u268_,u269_,u270_,u271_,u272_,u273_,u274_,u275_,u276_,u277_,u278_,u279_,u280_,u281_,u282_,u283_,u284_,u285_,u286_,u287_,u288_,u289_,u290_,u291_,u292_,u293_,u294_,u295_,u296_,u297_,u298_,u299_,u300_,u301_,u302_,u303_,u304_,u305_,u306_,u307_,u308_,u309_,u310_,u311_,u312_,u313_,u314_],defers:=[]} wr:=by
 have HPL:=hide hpl
 have HSC:=hide hsc
 have HRN:=hide hrn
 have hg1:=hn
 clear hpl hsc hrn
 conv=>arg 2;whnf
 have HK:=hide hK
 obtain⟨j,hj⟩:∃j,j=8*i:=⟨_,rfl⟩
 have e0:(i:Int)*8=(j:Int):=by omega
 obtain⟨j1,hj1⟩:∃j1,j1=j+1:=⟨_,rfl⟩
 obtain⟨j2,hj2⟩:∃j2,j2=j+2:=⟨_,rfl⟩
 obtain⟨j3,hj3⟩:∃j3,j3=j+3:=⟨_,rfl⟩
 obtain⟨j4,hj4⟩:∃j4,j4=j+4:=⟨_,rfl⟩
 obtain⟨j5,hj5⟩:∃j5,j5=j+5:=⟨_,rfl⟩
 obtain⟨j6,hj6⟩:∃j6,j6=j+6:=⟨_,rfl⟩
 obtain⟨j7,hj7⟩:∃j7,j7=j+7:=⟨_,rfl⟩
 have e1:(j:Int)+1=(j1:Int):=by omega
 have e2:(j:Int)+2=(j2:Int):=by omega
 have e3:(j:Int)+3=(j3:Int):=by omega
 have e4:(j:Int)+4=(j4:Int):=by omega
 have e5:(j:Int)+5=(j5:Int):=by omega
 have e6:(j:Int)+6=(j6:Int):=by omega
 have e7:(j:Int)+7=(j7:Int):=by omega
 have l0:(j:Int)<(gk:Int):=by omega
 have l1:(j1:Int)<(gk:Int):=by omega
 have l2:(j2:Int)<(gk:Int):=by omega
 have l3:(j3:Int)<(gk:Int):=by omega
 have l4:(j4:Int)<(gk:Int):=by omega
 have l5:(j5:Int)<(gk:Int):=by omega
 have l6:(j6:Int)<(gk:Int):=by omega
 have l7:(j7:Int)<(gk:Int):=by omega
 have w0:IntKind.i64.wrap (j:Int)=(j:Int):=IntWalk.i64_in _ (by omega)
 have w1:IntKind.i64.wrap (j1:Int)=(j1:Int):=IntWalk.i64_in _ (by omega)
 have w2:IntKind.i64.wrap (j2:Int)=(j2:Int):=IntWalk.i64_in _ (by omega)
 have w3:IntKind.i64.wrap (j3:Int)=(j3:Int):=IntWalk.i64_in _ (by omega)
 have w4:IntKind.i64.wrap (j4:Int)=(j4:Int):=IntWalk.i64_in _ (by omega)
 have w5:IntKind.i64.wrap (j5:Int)=(j5:Int):=IntWalk.i64_in _ (by omega)
 have w6:IntKind.i64.wrap (j6:Int)=(j6:Int):=IntWalk.i64_in _ (by omega)
 have w7:IntKind.i64.wrap (j7:Int)=(j7:Int):=IntWalk.i64_in _ (by omega)
 have wi:IntKind.i64.wrap (i:Int)=(i:Int):=IntWalk.i64_in _ (by omega)
 have p0:=HPL.out j (by omega) _ hm
 have p1:=HPL.out j1 (by omega) _ hm
 have p2:=HPL.out j2 (by omega) _ hm
 have p3:=HPL.out j3 (by omega) _ hm
 have p4:=HPL.out j4 (by omega) _ hm
 have p5:=HPL.out j5 (by omega) _ hm
 have p6:=HPL.out j6 (by omega) _ hm
 have p7:=HPL.out j7 (by omega) _ hm
 have hc0:=hu.ati i (by omega)
 have hf0:=hu.frozen i
 have HJ:=hide (And.intro hj (And.intro (hj1.trans (by rw[hj])) (And.intro (hj2.trans (by rw[hj])) (And.intro (hj3.trans (by rw[hj])) (And.intro (hj4.trans (by rw[hj])) (And.intro (hj5.trans (by rw[hj])) (And.intro (hj6.trans (by rw[hj])) (hj7.trans (by rw[hj])))))))))
 have HG:=hide hn
 clear hK hn hg1 hj hj1 hj2 hj3 hj4 hj5 hj6 hj7
 go_upto_region 9 with fail
 refine head1_512 _ wr w.heap.size pb o gk cc i j j1 j2 j3 j4 j5 j6 j7 (nth L j) (nth L j1) (nth L j2) (nth L j3) (nth L j4) (nth L j5) (nth L j6) (nth L j7) _ _ _ _ _ _ _ _ _ _ _ _ _ _ _ _ _ _ _ _ _ _ _ _ _ _ _ _ _ _ _ _ _ _ _ _ _ _ _ _ _ _ _ _ _ _ _ _ _ _ _ _ _ _ _ _ _ _ _ _ _ _ _ _ _ _ _ _ _ _ _ _ _ _ _ _ _ _ _ _ _ _ _ _ _ _ _ _ _ _ _ _ _ _ _ _ _ _ _ _ _ _ _ _ _ _ _ _ _ _ _ _ _ _ _ _ _ _ _ _ _ _ _ _ _ _ _ _ _ _ _ _ _ _ _ _ _ _ _ _ _ _ _ _ _ _ _ _ _ _ _ _ _ _ _ _ _ _ _ _ _ _ _ _ _ _ _ _ _ _ _ _ _ _ _ _ _ _ _ _ _ _ _ _ _ _ _ _ _ _ _ _ _ _ _ _ _ _ _ _ _ _ _ _ _ _ _ _ _ _ _ _ _ _ _ _ _ _ _ _ _ _ _ _ _ _ _ _ _ _ _ _ _ _ _ _ _ _ _ _ _ _ _ _ _ _ _ _ _ _ _ _ _ _ _ _ _ _ _ _ _ _ _ _ _ _ _ _ _ _ _ _ _ _ _ _ _ _ _ _ _ _ _ _ _ _ _ _ _ _ _ _ _ _ _ _ _ _ _ _ _ _ _ _ _ _ _ _ _ _ _ _ h2 hbk (by have hx:=HJ.out;have hy:=HG.out;omega) hcc (by have hx:=HJ.out;omega) (by have hx:=HJ.out;omega) (by have hx:=HJ.out;omega) (by have hx:=HJ.out;omega) (by have hx:=HJ.out;omega) (by have hx:=HJ.out;omega) (by have hx:=HJ.out;omega) (by have hx:=HJ.out;omega) p0 p1 p2 p3 p4 p5 p6 p7 hc0 hf0 ?_
 intros
 clear p0 e0 l0 w0 p1 e1 l1 w1 p2 e2 l2 w2 p3 e3 l3 w3 p4 e4 l4 w4 p5 e5 l5 w5 p6 e6 l6 w6 p7 e7 l7 w7
 obtain⟨y,hy⟩:∃y,y=be512i (nth L j) (nth L j1) (nth L j2) (nth L j3) (nth L j4) (nth L j5) (nth L j6) (nth L j7):=⟨_,rfl⟩
 rw[←hy]
 have HYS:Hid (y=ith (sch512 L (i+1)) i):=hide (by rw[sch512_new,if_pos h2,hy,HJ.out.1,HJ.out.2.1,HJ.out.2.2.1,HJ.out.2.2.2.1,HJ.out.2.2.2.2.1,HJ.out.2.2.2.2.2.1,HJ.out.2.2.2.2.2.2.1,HJ.out.2.2.2.2.2.2.2])
 have hu2:=((hu.seti i y).drew)
 have hm2:Mod [] w (wr.setCell ⟨w.heap.size,i,none⟩ (v64 y)).drew:=(hm.setCell _ _ (by simp)).drew
 obtain⟨wn,hwn⟩:∃wn,wn=(wr.setCell ⟨w.heap.size,i,none⟩ (v64 y)).drew:=⟨_,rfl⟩
 have hcn:=hu2.ati i (by simp;omega)
 rw[ith_set_same (by omega)]at hcn
 have kn:=(HK.out.mod hm2 (by simp)).ati i (by omega)
 rw[←hwn]at hu2 hm2 hcn kn ⊢
 have HSC2:Hid (Sch512 L (i+1) (us.set i y)):=hide (HSC.out.next (by omega) HYS.out)
 clear hwn hc0 hf0 hm hu hy HSC
 obtain⟨kv,hkv⟩:∃kv,kv=ith K i:=⟨_,rfl⟩
 rw[←hkv]at kn
 have HKV:=hide hkv
 clear hkv HK
 apply_assumption
 refine tail512 _ _ _ _ _ _ _ _ _ _ _ _ kv y _ _ _ _ _ _ _ _ _ _ _ _ _ _ _ _ _ _ _ _ _ _ _ _ _ _ _ _ _ _ _ _ _ _ _ _ _ _ _ _ _ _ _ _ _ _ _ _ _ _ _ _ _ _ _ _ _ _ _ _ _ _ _ _ _ _ _ _ _ _ _ _ _ _ _ _ _ _ _ _ _ _ _ _ _ _ _ _ _ _ _ _ _ _ _ _ _ _ _ _ _ _ _ _ _ _ _ _ _ _ _ _ _ _ _ _ _ _ _ _ _ _ _ _ _ _ _ _ _ _ _ _ _ _ _ _ _ _ _ _ _ _ _ _ _ _ _ _ _ _ _ _ _ _ _ _ _ _ _ _ _ _ _ _ _ _ _ _ _ _ _ _ _ _ _ _ _ _ _ _ _ _ _ _ _ _ _ _ _ _ _ _ _ _ _ _ _ _ _ _ _ _ _ _ _ _ _ _ _ _ _ _ _ _ _ _ _ _ _ _ _ _ _ _ _ _ _ _ _ _ _ _ _ _ _ _ _ _ _ _ _ _ _ _ _ _ _ _ _ _ _ _ _ _ _ _ _ _ _ _ _ _ _ _ _ _ _ _ _ _ _ _ _ _ _ _ _ _ _ _ _ _ _ _ _ _ _ _ _ _ _ _ _ _ _ _ _ _ _ _ _ _ _ _ _ hcn kn h1 ?_
 intros
 clear hcn kn
 have HR2:Hid (rnd512 K L Hs (i+1)=[(t1_512 x4 x5 x6 x7 kv y+t2_512 x0 x1 x2)%18446744073709551616,x0,x1,x2,(x3+t1_512 x4 x5 x6 x7 kv y)%18446744073709551616,x4,x5,x6]):=hide (by
  rw[rnd512,HRN.out,←HKV.out,←HYS.out];rfl)
 have lu2:(us.set i y).length=80:=by rw[List.length_set];exact lu
 go_wp2_with fail
 exact hQ _ _ _ _ _ _ _ _ _ _ _ _ _ _ _ _ _ _ _ _ _ _ _ _ _ _ _ _ _ _ _ _ _ _ _ _ _ _ _ _ _ _ _ _ _ _ _ _ _ _ _ _ _ _ _ _ _ _ _ _ _ _ _ _ _ _ _ _ _ _ _ _ _ _ _ _ _ _ _ _ _ _ _ _ _ _ _ _ _ _ _ _ _ _ _ _ _ _ _ _ _ _ _ _ _ _ _ _ _ _ _ _ _ _ _ _ _ _ _ _ _ _ _ _ _ _ _ _ _ _ _ _ _ _ _ _ _ _ _ _ _ _ _ _ _ _ _ _ _ _ _ _ _ _ _ _ _ _ _ _ _ _ _ _ _ _ _ _ _ _ _ _ _ _ _ _ _ _ (us.set i y) _ (hm2.drewN _) lu2 (hu2.drewN _) HSC2.out HR2.out
set_option maxRecDepth 1000000 in
theorem rnB512(Q:Exit→Act→World→Prop)(w wr:World)(pb o gk cc i:Nat)(x0 x1 x2 x3 x4 x5 x6 x7:Int)(L:List Nat)(us K Hs:List Int)(u0_ u2_ u3_ u5_ u6_ u7_ u8_ u9_ u10_ u11_ u12_ u21_ u22_ u23_ u24_ u25_ u26_ u27_ u28_ u29_ u30_ u31_ u32_ u33_ u34_ u35_ u36_ u37_ u38_ u39_ u40_ u41_ u42_ u43_ u44_ u45_ u46_ u47_ u48_ u49_ u50_ u51_ u52_ u53_ u54_ u55_ u56_ u57_ u58_ u59_ u60_ u61_ u62_ u63_ u64_ u65_ u66_ u67_ u68_ u69_ u70_ u71_ u72_ u73_ u74_ u75_ u76_ u77_ u78_ u79_ u81_ u82_ u83_ u84_ u85_ u86_ u87_ u88_ u89_ u90_ u91_ u92_ u93_ u94_ u95_ u96_ u97_ u98_ u99_ u100_ u101_ u102_ u103_ u104_ u105_ u106_ u107_ u108_ u109_ u110_ u111_ u112_ u113_ u114_ u115_ u116_ u117_ u118_ u119_ u120_ u121_ u122_ u123_ u124_ u125_ u126_ u127_ u128_ u129_ u130_ u131_ u132_ u133_ u134_ u135_ u136_ u137_ u138_ u139_ u140_ u141_ u142_ u143_ u144_ u145_ u146_ u147_ u148_ u149_ u150_ u151_ u152_ u153_ u154_ u155_ u156_ u157_ u158_ u159_ u160_ u161_ u162_ u163_ u164_ u165_ u166_ u167_ u168_ u169_ u170_ u171_ u172_ u173_ u174_ u175_ u176_ u177_ u178_ u179_ u180_ u181_ u182_ u183_ u184_ u185_ u186_ u187_ u188_ u189_ u190_ u191_ u192_ u193_ u194_ u195_ u196_ u197_ u198_ u199_ u200_ u201_ u202_ u203_ u204_ u205_ u206_ u207_ u208_ u209_ u210_ u211_ u212_ u213_ u214_ u215_ u216_ u217_ u218_ u219_ u220_ u221_ u222_ u223_ u224_ u225_ u226_ u227_ u228_ u229_ u230_ u231_ u232_ u233_ u234_ u235_ u236_ u237_ u238_ u239_ u240_ u241_ u242_ u243_ u244_ u245_ u246_ u247_ u248_ u249_ u250_ u251_ u252_ u253_ u254_ u255_ u256_ u257_ u258_ u259_ u260_ u261_ u262_ u263_ u264_ u265_ u266_ u267_ u268_ u269_ u270_ u271_ u272_ u273_ u274_ u275_ u276_ u277_ u278_ u279_ u280_ u281_ u282_ u283_ u284_ u285_ u286_ u287_ u288_ u289_ u290_ u291_ u292_ u293_ u294_ u295_ u296_ u297_ u298_ u299_ u300_ u301_ u302_ u303_ u304_ u305_ u306_ u307_ u308_ u309_ u310_ u311_ u312_ u313_ u314_:Value)(h2:¬i<16)(h1:i<80)(hn:128≤gk)(hcc:gk≤cc)(hbk:pb≠w.heap.size)
 (hpl:∀i,i<128→∀w',Mod [] w w'→w'.cell? ⟨pb,o+i,none⟩=some (u8 (nth L i))) (hm:Mod [] w wr) (lu:us.length=80) (hu:Blk wr w.heap.size 241 (us.map v64)) (hsc:Sch512 L i us)
 (hrn:rnd512 K L Hs i=[x0,x1,x2,x3,x4,x5,x6,x7]) (hK:Blk w 6 241 (K.map v64)) (lK:K.length=80)
 (hQ:∀(s21 s22 s23 s24 s25 s26 s27 s28 s81 s82 s83 s84 s85 s86 s87 s88 s89 s90 s91 s92 s93 s94 s95 s96 s97 s98 s99 s100 s101 s102 s103 s104 s105 s106 s107 s108 s109 s110 s111 s112 s113 s114 s115 s116 s117 s118 s119 s120 s121 s122 s123 s124 s125 s126 s127 s128 s129 s130 s131 s132 s133 s134 s135 s136 s137 s138 s139 s140 s141 s142 s143 s144 s145 s146 s147 s148 s149 s150 s151 s152 s153 s154 s155 s156 s157 s158 s159 s160 s161 s162 s163 s164 s165 s166 s167 s168 s169 s170 s171 s172 s173 s174 s175 s176 s177 s178 s179 s180 s181 s182 s183 s184 s185 s186 s187 s188 s189 s190 s191 s192 s193 s194 s195 s196 s197 s198 s199 s200 s201 s202 s203 s204 s205 s206 s207 s208 s209 s210 s211 s212 s213 s214 s215 s216 s217 s218 s219 s220 s221 s222 s223 s224 s225 s226 s227 s228 s229 s230 s231 s232 s233 s234 s235 s236 s237 s238 s239 s240 s241 s242 s243 s244 s245 s246 s247 s248:Value) (y0 y4:Int) (us2:List Int) (wn:World),Mod [] w wn→us2.length=80→Blk wn w.heap.size 241 (us2.map v64)→Sch512 L (i+1) us2→rnd512 K L Hs (i+1)=[y0,x0,x1,x2,y4,x4,x5,x6]→Q .normal {tmps:=#[u0_,sl pb o gk cc,u2_,u3_,.pointer (some ⟨w.heap.size,0,none⟩),u5_,u6_,u7_,u8_,u9_,u10_,u11_,u12_,v64 y0,v64 x0,v64 x1,v64 x2,v64 y4,v64 x4,v64 x5,v64 x6,s21,s22,s23,s24,s25,s26,s27,s28,u29_,u30_,u31_,u32_,u33_,u34_,u35_,u36_,u37_,u38_,u39_,u40_,u41_,u42_,u43_,u44_,u45_,u46_,u47_,u48_,u49_,u50_,u51_,u52_,u53_,u54_,u55_,u56_,u57_,u58_,u59_,u60_,u61_,u62_,u63_,u64_,u65_,u66_,u67_,u68_,u69_,u70_,u71_,u72_,u73_,u74_,u75_,u76_,u77_,u78_,u79_,.int .i64 ((i:Int)+1),s81,s82,s83,s84,s85,s86,s87,s88,s89,s90,s91,s92,s93,s94,s95,s96,s97,s98,s99,s100,s101,s102,s103,s104,s105,s106,s107,s108,s109,s110,s111,s112,s113,s114,s115,s116,s117,s118,s119,s120,s121,s122,s123,s124,s125,s126,s127,s128,s129,s130,s131,s132,s133,s134,s135,s136,s137,s138,s139,s140,s141,s142,s143,s144,s145,s146,s147,s148,s149,s150,s151,s152,s153,s154,s155,s156,s157,s158,s159,s160,s161,s162,s163,s164,s165,s166,s167,s168,s169,s170,s171,s172,s173,s174,s175,s176,s177,s178,s179,s180,s181,s182,s183,s184,s185,s186,s187,s188,s189,s190,s191,s192,s193,s194,s195,s196,s197,s198,s199,s200,s201,s202,s203,s204,s205,s206,s207,s208,s209,s210,s211,s212,s213,s214,s215,s216,s217,s218,s219,s220,s221,s222,s223,s224,s225,s226,s227,s228,s229,s230,s231,s232,s233,s234,s235,s236,s237,s238,s239,s240,s241,s242,s243,s244,s245,s246,s247,s248,u249_,u250_,u251_,u252_,u253_,u254_,u255_,u256_,u257_,u258_,u259_,u260_,u261_,u262_,u263_,u264_,u265_,u266_,u267_,u268_,u269_,u270_,u271_,u272_,u273_,u274_,u275_,u276_,u277_,u278_,u279_,u280_,u281_,u282_,u283_,u284_,u285_,u286_,u287_,u288_,u289_,u290_,u291_,u292_,u293_,u294_,u295_,u296_,u297_,u298_,u299_,u300_,u301_,u302_,u303_,u304_,u305_,u306_,u307_,u308_,u309_,u310_,u311_,u312_,u313_,u314_],defers:=[]} wn) :
 (((Tryz.f194.body.bind (loopAt 5)).getD .skip)).wp Tryz.prog Q {tmps:=#[u0_,sl pb o gk cc,u2_,u3_,.pointer (some ⟨w.heap.size,0,none⟩),u5_,u6_,u7_,u8_,u9_,u10_,u11_,u12_,v64 x0,v64 x1,v64 x2,v64 x3,v64 x4,v64 x5,v64 x6,v64 x7,u21_,u22_,u23_,u24_,u25_,u26_,u27_,u28_,u29_,u30_,u31_,u32_,u33_,u34_,u35_,u36_,u37_,u38_,u39_,u40_,u41_,u42_,u43_,u44_,u45_,u46_,u47_,u48_,u49_,u50_,u51_,u52_,u53_,u54_,u55_,u56_,u57_,u58_,u59_,u60_,u61_,u62_,u63_,u64_,u65_,u66_,u67_,u68_,u69_,u70_,u71_,u72_,u73_,u74_,u75_,u76_,u77_,u78_,u79_,i64 i,u81_,u82_,u83_,u84_,u85_,u86_,u87_,u88_,u89_,u90_,u91_,u92_,u93_,u94_,u95_,u96_,u97_,u98_,u99_,u100_,u101_,u102_,u103_,u104_,u105_,u106_,u107_,u108_,u109_,u110_,u111_,u112_,u113_,u114_,u115_,u116_,u117_,u118_,u119_,u120_,u121_,u122_,u123_,u124_,u125_,u126_,u127_,u128_,u129_,u130_,u131_,u132_,u133_,u134_,u135_,u136_,u137_,u138_,u139_,u140_,u141_,u142_,u143_,u144_,u145_,u146_,u147_,u148_,u149_,u150_,u151_,u152_,u153_,u154_,u155_,u156_,u157_,u158_,u159_,u160_,u161_,u162_,u163_,u164_,u165_,u166_,u167_,u168_,u169_,u170_,u171_,u172_,u173_,u174_,u175_,u176_,u177_,u178_,u179_,u180_,u181_,u182_,u183_,u184_,u185_,u186_,u187_,u188_,u189_,u190_,u191_,u192_,u193_,u194_,u195_,u196_,u197_,u198_,u199_,u200_,u201_,u202_,u203_,u204_,u205_,u206_,u207_,u208_,u209_,u210_,u211_,u212_,u213_,u214_,u215_,u216_,u217_,u218_,u219_,u220_,u221_,u222_,u223_,u224_,u225_,u226_,u227_,u228_,u229_,u230_,u231_,u232_,u233_,u234_,u235_,u236_,u237_,u238_,u239_,u240_,u241_,u242_,u243_,u244_,u245_,u246_,u247_,u248_,u249_,u250_,u251_,u252_,u253_,u254_,u255_,u256_,u257_,u258_,u259_,u260_,u261_,u262_,u263_,u264_,u265_,u266_,u267_,u268_,u269_,u270_,u271_,u272_,u273_,u274_,u275_,u276_,u277_,u278_,u279_,u280_,u281_,u282_,u283_,u284_,u285_,u286_,u287_,u288_,u289_,u290_,u291_,u292_,u293_,u294_,u295_,u296_,u297_,u298_,u299_,u300_,u301_,u302_,u303_,u304_,u305_,u306_,u307_,u308_,u309_,u310_,u311_,u312_,u313_,u314_],defers:=[]} wr:=by
 have HPL:=hide hpl
 have HSC:=hide hsc
 have HRN:=hide hrn
 have hg1:=hn
 clear hpl hsc hrn
 conv=>arg 2;whnf
 have HK:=hide hK
 obtain⟨i2,hi2⟩:∃i2,i2=i-2:=⟨_,rfl⟩
 obtain⟨i15,hi15⟩:∃i15,i15=i-15:=⟨_,rfl⟩
 obtain⟨i7,hi7⟩:∃i7,i7=i-7:=⟨_,rfl⟩
 obtain⟨i16,hi16⟩:∃i16,i16=i-16:=⟨_,rfl⟩
 have e2:(i:Int)-2=(i2:Int):=by omega
 have e15:(i:Int)-15=(i15:Int):=by omega
 have e7:(i:Int)-7=(i7:Int):=by omega
 have e16:(i:Int)-16=(i16:Int):=by omega
 have l2:(i2:Int)<80:=by omega
 have l15:(i15:Int)<80:=by omega
 have l7:(i7:Int)<80:=by omega
 have l16:(i16:Int)<80:=by omega
 have ww:IntKind.i64.wrap (i:Int)=(i:Int):=IntWalk.i64_in _ (by omega)
 have ww7:IntKind.i64.wrap (i7:Int)=(i7:Int):=IntWalk.i64_in _ (by omega)
 have ww16:IntKind.i64.wrap (i16:Int)=(i16:Int):=IntWalk.i64_in _ (by omega)
 have li:(i:Int)<80:=by omega
 have p2:=hu.ati i2 (by omega)
 have p15:=hu.ati i15 (by omega)
 have p7:=hu.ati i7 (by omega)
 have p16:=hu.ati i16 (by omega)
 have n7:i7≠i:=by omega
 have n16:i16≠i:=by omega
 obtain⟨q2,hq2⟩:∃q2,q2=ith us i2:=⟨_,rfl⟩
 obtain⟨q15,hq15⟩:∃q15,q15=ith us i15:=⟨_,rfl⟩
 obtain⟨q7,hq7⟩:∃q7,q7=ith us i7:=⟨_,rfl⟩
 obtain⟨q16,hq16⟩:∃q16,q16=ith us i16:=⟨_,rfl⟩
 rw[←hq2]at p2
 rw[←hq15]at p15
 rw[←hq7]at p7
 rw[←hq16]at p16
 have HQs:=hide (And.intro hq2 (And.intro hq15 (And.intro hq7 (And.intro hq16 (And.intro hi2 (And.intro hi15 (And.intro hi7 hi16)))))))
 have hc0:=hu.ati i (by omega)
 have hf0:=hu.frozen i
 have HI:=hide h1
 clear hK hn hg1 hi2 hi15 hi7 hi16 hq2 hq15 hq7 hq16
 go_wp2_with fail
 refine(c_rot64 _ _ _).mono ?_
 rintro e w' ⟨rfl,rfl⟩
 go_wp2_with fail
 refine(c_rot64 _ _ _).mono ?_
 rintro e w' ⟨rfl,rfl⟩
 go_wp2_with fail
 refine(c_rot64 _ _ _).mono ?_
 rintro e w' ⟨rfl,rfl⟩
 go_wp2_with fail
 refine(c_rot64 _ _ _).mono ?_
 rintro e w' ⟨rfl,rfl⟩
 go_upto_region 14 with fail
 refine head2_512 _ wr w.heap.size i i7 i16 _ _ q7 q16 _ _ _ _ _ _ _ _ _ _ _ _ _ _ _ _ _ _ _ _ _ _ _ _ _ _ _ _ _ _ _ _ _ _ _ _ _ _ _ _ _ _ _ _ _ _ _ _ _ _ _ _ _ _ _ _ _ _ _ _ _ _ _ _ _ _ _ _ _ _ _ _ _ _ _ _ _ _ _ _ _ _ _ _ _ _ _ _ _ _ _ _ _ _ _ _ _ _ _ _ _ _ _ _ _ _ _ _ _ _ _ _ _ _ _ _ _ _ _ _ _ _ _ _ _ _ _ _ _ _ _ _ _ _ _ _ _ _ _ _ _ _ _ _ _ _ _ _ _ _ _ _ _ _ _ _ _ _ _ _ _ _ _ _ _ _ _ _ _ _ _ _ _ _ _ _ _ _ _ _ _ _ _ _ _ _ _ _ _ _ _ _ _ _ _ _ _ _ _ _ _ _ _ _ _ _ _ _ _ _ _ _ _ _ _ _ _ _ _ _ _ _ _ _ _ _ _ _ _ _ _ _ _ _ _ _ _ _ _ _ _ _ _ _ _ _ _ _ _ _ _ _ _ _ _ _ _ _ _ _ _ _ _ _ _ _ _ _ _ _ _ _ _ _ _ _ _ _ _ _ _ _ _ _ _ _ _ _ _ _ _ _ _ _ _ _ _ _ _ _ _ _ _ _ _ _ _ _ _ _ _ _ HI.out (by have:=HQs.out;omega) (by have:=HQs.out;omega) p7 p16 hc0 hf0 ?_
 intros
 obtain⟨y,hy⟩:∃y,y=nxt512 q2 q7 q15 q16:=⟨_,rfl⟩
 rw[show IntKind.u64.wrap (IntKind.u64.wrap (IntKind.u64.wrap (_+q7)+_)+q16)=y from hy.symm]
 have HYS:Hid (y=ith (sch512 L (i+1)) i):=hide (by
  obtain⟨f1,f2,f3,f4,g1,g2,g3,g4⟩:=HQs.out
  rw[sch512_new,if_neg h2,hy,f1,f2,f3,f4,g1,g2,g3,g4,HSC.out (i-2) (by omega),HSC.out (i-7) (by omega),HSC.out (i-15) (by omega),HSC.out (i-16) (by omega)])
 clear e2 e15 e7 e16 l2 l15 l7 l16 ww ww7 ww16 p2 p15 p7 p16 n7 n16 HQs
 have hu2:=((hu.seti i y).drew)
 have hm2:Mod [] w (wr.setCell ⟨w.heap.size,i,none⟩ (v64 y)).drew:=(hm.setCell _ _ (by simp)).drew
 obtain⟨wn,hwn⟩:∃wn,wn=(wr.setCell ⟨w.heap.size,i,none⟩ (v64 y)).drew:=⟨_,rfl⟩
 have hcn:=hu2.ati i (by simp;omega)
 rw[ith_set_same (by omega)]at hcn
 have kn:=(HK.out.mod hm2 (by simp)).ati i (by omega)
 rw[←hwn]at hu2 hm2 hcn kn ⊢
 have HSC2:Hid (Sch512 L (i+1) (us.set i y)):=hide (HSC.out.next (by omega) HYS.out)
 clear hwn hc0 hf0 hm hu hy HSC
 obtain⟨kv,hkv⟩:∃kv,kv=ith K i:=⟨_,rfl⟩
 rw[←hkv]at kn
 have HKV:=hide hkv
 clear hkv HK
 apply_assumption
 refine tail512 _ _ _ _ _ _ _ _ _ _ _ _ kv y _ _ _ _ _ _ _ _ _ _ _ _ _ _ _ _ _ _ _ _ _ _ _ _ _ _ _ _ _ _ _ _ _ _ _ _ _ _ _ _ _ _ _ _ _ _ _ _ _ _ _ _ _ _ _ _ _ _ _ _ _ _ _ _ _ _ _ _ _ _ _ _ _ _ _ _ _ _ _ _ _ _ _ _ _ _ _ _ _ _ _ _ _ _ _ _ _ _ _ _ _ _ _ _ _ _ _ _ _ _ _ _ _ _ _ _ _ _ _ _ _ _ _ _ _ _ _ _ _ _ _ _ _ _ _ _ _ _ _ _ _ _ _ _ _ _ _ _ _ _ _ _ _ _ _ _ _ _ _ _ _ _ _ _ _ _ _ _ _ _ _ _ _ _ _ _ _ _ _ _ _ _ _ _ _ _ _ _ _ _ _ _ _ _ _ _ _ _ _ _ _ _ _ _ _ _ _ _ _ _ _ _ _ _ _ _ _ _ _ _ _ _ _ _ _ _ _ _ _ _ _ _ _ _ _ _ _ _ _ _ _ _ _ _ _ _ _ _ _ _ _ _ _ _ _ _ _ _ _ _ _ _ _ _ _ _ _ _ _ _ _ _ _ _ _ _ _ _ _ _ _ _ _ _ _ _ _ _ _ _ _ _ _ _ _ _ _ _ _ _ _ _ _ _ _ hcn kn h1 ?_
 intros
 clear hcn kn
 have HR2:Hid (rnd512 K L Hs (i+1)=[(t1_512 x4 x5 x6 x7 kv y+t2_512 x0 x1 x2)%18446744073709551616,x0,x1,x2,(x3+t1_512 x4 x5 x6 x7 kv y)%18446744073709551616,x4,x5,x6]):=hide (by
  rw[rnd512,HRN.out,←HKV.out,←HYS.out];rfl)
 have lu2:(us.set i y).length=80:=by rw[List.length_set];exact lu
 go_wp2_with fail
 exact hQ _ _ _ _ _ _ _ _ _ _ _ _ _ _ _ _ _ _ _ _ _ _ _ _ _ _ _ _ _ _ _ _ _ _ _ _ _ _ _ _ _ _ _ _ _ _ _ _ _ _ _ _ _ _ _ _ _ _ _ _ _ _ _ _ _ _ _ _ _ _ _ _ _ _ _ _ _ _ _ _ _ _ _ _ _ _ _ _ _ _ _ _ _ _ _ _ _ _ _ _ _ _ _ _ _ _ _ _ _ _ _ _ _ _ _ _ _ _ _ _ _ _ _ _ _ _ _ _ _ _ _ _ _ _ _ _ _ _ _ _ _ _ _ _ _ _ _ _ _ _ _ _ _ _ _ _ _ _ _ _ _ _ _ _ _ _ _ _ _ _ _ _ _ _ _ _ _ _ (us.set i y) _ (hm2.drewN _) lu2 (hu2.drewN _) HSC2.out HR2.out
set_option maxRecDepth 100000 in
theorem c_block512(d:Nat)(hs:List Int)(rest:List Value)(K:List Int)(pb po c:Nat)(P:List Nat)(w:World)
 (hd:Blk w d 145 (hs.map v64++rest)) (lh:hs.length=8) (hK:Blk w 6 241 (K.map v64)) (lK:K.length=80)
 (hp:∀i,i<P.length→w.cell? ⟨pb,po+i,none⟩=some (u8 (nth P i))) (lP:P.length≤100000) (hc:P.length≤c) :
 Calls Tryz.prog 194 #[ptr d,sl pb po P.length c] w fun e w'=>e=.returned (.tuple #[])∧Mod [d] w w'∧Blk w' d 145 ((runH (blk512 K) 128 hs P 0 (P.length/128)).map v64++rest):=by
 have a0:=hd.atl 0 (by omega)
 have a1:=hd.atl 1 (by omega)
 have a2:=hd.atl 2 (by omega)
 have a3:=hd.atl 3 (by omega)
 have a4:=hd.atl 4 (by omega)
 have a5:=hd.atl 5 (by omega)
 have a6:=hd.atl 6 (by omega)
 have a7:=hd.atl 7 (by omega)
 obtain⟨W,hW⟩:∃W,W=w.alloc (.cells (List.replicate 80 (v64 0)).toArray 241):=⟨_,rfl⟩
 have mW:Mod [] w W:=by rw[hW];exact(Mod.refl [] w).alloc _
 have hB:Blk W w.heap.size 241 ((List.replicate 80 (0:Int)).map v64):=by
  have h:=Blk.new w 241 (List.replicate 80 (v64 0))
  rw[←hW]at h
  rw[List.map_replicate]
  exact h
 replace a0:=cell_up0 a0 mW
 replace a1:=cell_up0 a1 mW
 replace a2:=cell_up0 a2 mW
 replace a3:=cell_up0 a3 mW
 replace a4:=cell_up0 a4 mW
 replace a5:=cell_up0 a5 mW
 replace a6:=cell_up0 a6 mW
 replace a7:=cell_up0 a7 mW
 have HS0:Hid (runH (blk512 K) 128 hs P 0 0=[ith hs 0,ith hs 1,ith hs 2,ith hs 3,ith hs 4,ith hs 5,ith hs 6,ith hs 7]):=hide (list8 lh)
 go_enter Tryz.func194,Tryz.ntmps194
 go_upto_region 1 with fail
 refine(?_:Code.wp _ _ _ _ (w.alloc (.cells (List.replicate 80 (v64 0)).toArray 241)))
 rw[←hW]
 clear hW
 go_quiet (fail)
 go_wp2_with fail
 clear a0 a1 a2 a3 a4 a5 a6 a7
 go_loopg [1,5,6,7,8,9,10,11,12] P.length (fun n p b0 b1 b2 b3 b4 b5 b6 b7 wr=>∃q z0 z1 z2 z3 z4 z5 z6 z7 cc o,p=sl pb o n cc∧(0<n→o=po+128*q)∧P.length=128*q+n∧n≤cc∧b0=v64 z0∧b1=v64 z1∧b2=v64 z2∧b3=v64 z3∧b4=v64 z4∧b5=v64 z5∧b6=v64 z6∧b7=v64 z7∧Mod [] w wr∧(∃ws:List Int,ws.length=80∧Blk wr w.heap.size 241 (ws.map v64))∧Hid (runH (blk512 K) 128 hs P 0 q=[z0,z1,z2,z3,z4,z5,z6,z7]))
 case atStart=>exact⟨0,_,_,_,_,_,_,_,_,c,po,rfl,fun _=>by omega,by omega,hc,rfl,rfl,rfl,rfl,rfl,rfl,rfl,rfl,mW.drewN _,⟨List.replicate 80 0,by simp,hB.drewN _⟩,HS0⟩
 case round=>
  obtain⟨q,z0,z1,z2,z3,z4,z5,z6,z7,cc,o,rfl,hoo,hq,hcc,rfl,rfl,rfl,rfl,rfl,rfl,rfl,rfl,hm,⟨ws,lw,hw⟩,HZ⟩:=hrel
  by_cases hn:128≤gk
  ·have ho:o=po+128*q:=hoo (by omega)
   clear hoo
   have hpl:∀i,i<128→∀w',Mod [] w w'→w'.cell? ⟨pb,o+i,none⟩=some (u8 (nth (cut P (0+128*q) 128) i)):=fun i hi w' m=>by
    rw[nth_cut hi,ho,Nat.add_assoc,Nat.zero_add]
    exact cell_up0 (hp _ (by omega)) m
   obtain⟨L,hL⟩:∃L,L=cut P (0+128*q) 128:=⟨_,rfl⟩
   rw[←hL]at hpl
   have HPL:=hide hpl
   have HO:=hide ho
   have HQ:=hide hq
   have hg1:(128:Int)≤(gk:Int):=by omega
   have hbk:pb≠w.heap.size:=Nat.ne_of_lt (block_lt_of_cell (hp 0 (by omega)))
   have HL:=hide hL
   clear ho hq hpl hL
   go_wp2_with fail
   go_loopw [13,14,15,16,17,18,19,20,80] (fun b0 b1 b2 b3 b4 b5 b6 b7 iv wr=>∃(i:Nat) (x0 x1 x2 x3 x4 x5 x6 x7:Int) (us:List Int),b0=v64 x0∧b1=v64 x1∧b2=v64 x2∧b3=v64 x3∧b4=v64 x4∧b5=v64 x5∧b6=v64 x6∧b7=v64 x7∧iv=i64 i∧i≤80∧Mod [] w wr∧us.length=80∧Blk wr w.heap.size 241 (us.map v64)∧Hid (Sch512 L i us)∧Hid (rnd512 K L (runH (blk512 K) 128 hs P 0 q) i=[x0,x1,x2,x3,x4,x5,x6,x7])) (fun _ _ _ _ _ _ _ _ iv _=>80-(intOf iv).toNat)
   case atStart=>exact⟨0,z0,z1,z2,z3,z4,z5,z6,z7,ws,rfl,rfl,rfl,rfl,rfl,rfl,rfl,rfl,rfl,by omega,hm,lw,hw,hide (fun j hj=>absurd hj (Nat.not_lt_zero j)),HZ⟩
   case round=>
    clear hw lw hm ws
    obtain⟨i,x0,x1,x2,x3,x4,x5,x6,x7,us,rfl,rfl,rfl,rfl,rfl,rfl,rfl,rfl,rfl,hi,hm,lu,hu,HSC,HRN⟩:=hrel
    by_cases h1:i<80
    ·by_cases h2:i<16
     ·refine rnA512 _ w wr pb o gk cc i x0 x1 x2 x3 x4 x5 x6 x7 L us K (runH (blk512 K) 128 hs P 0 q) _ _ _ _ _ _ _ _ _ _ _ _ _ _ _ _ _ _ _ _ _ _ _ _ _ _ _ _ _ _ _ _ _ _ _ _ _ _ _ _ _ _ _ _ _ _ _ _ _ _ _ _ _ _ _ _ _ _ _ _ _ _ _ _ _ _ _ _ _ _ _ _ _ _ _ _ _ _ _ _ _ _ _ _ _ _ _ _ _ _ _ _ _ _ _ _ _ _ _ _ _ _ _ _ _ _ _ _ _ _ _ _ _ _ _ _ _ _ _ _ _ _ _ _ _ _ _ _ _ _ _ _ _ _ _ _ _ _ _ _ _ _ _ _ _ _ _ _ _ _ _ _ _ _ _ _ _ _ _ _ _ _ _ _ _ _ _ _ _ _ _ _ _ _ _ _ _ _ _ _ _ _ _ _ _ _ _ _ _ _ _ _ _ _ _ _ _ _ _ _ _ _ _ _ _ _ _ _ _ _ _ _ _ _ _ _ _ _ _ _ _ _ _ _ _ _ _ _ _ _ _ _ _ _ _ _ _ _ _ _ _ _ _ _ _ _ _ _ _ _ _ _ _ _ _ _ _ _ _ _ _ _ _ _ _ _ _ _ _ _ _ _ _ _ _ _ _ _ _ _ _ _ _ _ _ _ _ _ _ _ _ _ _ _ _ _ _ _ _ _ _ _ _ _ h2 h1 hn hcc hbk HPL.out hm lu hu HSC.out HRN.out hK lK ?_
      intros
      rename_i y0 y4 us2 wn m2 l2 b2 s2 r2
      go_wp2_with fail
      go_roundw
      case rel=>
       have hrel2:∃(i':Nat) (x0' x1' x2' x3' x4' x5' x6' x7':Int) (us:List Int),v64 y0=v64 x0'∧v64 x0=v64 x1'∧v64 x1=v64 x2'∧v64 x2=v64 x3'∧v64 y4=v64 x4'∧v64 x4=v64 x5'∧v64 x5=v64 x6'∧v64 x6=v64 x7'∧Value.int .i64 ((i:Int)+1)=i64 i'∧i'≤80∧Mod [] w wn∧us.length=80∧Blk wn w.heap.size 241 (us.map v64)∧Hid (Sch512 L i' us)∧Hid (rnd512 K L (runH (blk512 K) 128 hs P 0 q) i'=[x0',x1',x2',x3',x4',x5',x6',x7']):=⟨i+1,_,x0,x1,x2,_,x4,x5,x6,us2,rfl,rfl,rfl,rfl,rfl,rfl,rfl,rfl,by go_num,by omega,m2,l2,b2,hide s2,hide r2⟩
       first|exact hrel2|((repeat apply Exists.intro);exact⟨hrel2,rfl⟩)
      case measure=>simp[intOf];omega
     ·refine rnB512 _ w wr pb o gk cc i x0 x1 x2 x3 x4 x5 x6 x7 L us K (runH (blk512 K) 128 hs P 0 q) _ _ _ _ _ _ _ _ _ _ _ _ _ _ _ _ _ _ _ _ _ _ _ _ _ _ _ _ _ _ _ _ _ _ _ _ _ _ _ _ _ _ _ _ _ _ _ _ _ _ _ _ _ _ _ _ _ _ _ _ _ _ _ _ _ _ _ _ _ _ _ _ _ _ _ _ _ _ _ _ _ _ _ _ _ _ _ _ _ _ _ _ _ _ _ _ _ _ _ _ _ _ _ _ _ _ _ _ _ _ _ _ _ _ _ _ _ _ _ _ _ _ _ _ _ _ _ _ _ _ _ _ _ _ _ _ _ _ _ _ _ _ _ _ _ _ _ _ _ _ _ _ _ _ _ _ _ _ _ _ _ _ _ _ _ _ _ _ _ _ _ _ _ _ _ _ _ _ _ _ _ _ _ _ _ _ _ _ _ _ _ _ _ _ _ _ _ _ _ _ _ _ _ _ _ _ _ _ _ _ _ _ _ _ _ _ _ _ _ _ _ _ _ _ _ _ _ _ _ _ _ _ _ _ _ _ _ _ _ _ _ _ _ _ _ _ _ _ _ _ _ _ _ _ _ _ _ _ _ _ _ _ _ _ _ _ _ _ _ _ _ _ _ _ _ _ _ _ _ _ _ _ _ _ _ _ _ _ _ _ _ _ _ _ _ _ _ _ _ _ _ _ _ _ h2 h1 hn hcc hbk HPL.out hm lu hu HSC.out HRN.out hK lK ?_
      intros
      rename_i y0 y4 us2 wn m2 l2 b2 s2 r2
      go_wp2_with fail
      go_roundw
      case rel=>
       have hrel2:∃(i':Nat) (x0' x1' x2' x3' x4' x5' x6' x7':Int) (us:List Int),v64 y0=v64 x0'∧v64 x0=v64 x1'∧v64 x1=v64 x2'∧v64 x2=v64 x3'∧v64 y4=v64 x4'∧v64 x4=v64 x5'∧v64 x5=v64 x6'∧v64 x6=v64 x7'∧Value.int .i64 ((i:Int)+1)=i64 i'∧i'≤80∧Mod [] w wn∧us.length=80∧Blk wn w.heap.size 241 (us.map v64)∧Hid (Sch512 L i' us)∧Hid (rnd512 K L (runH (blk512 K) 128 hs P 0 q) i'=[x0',x1',x2',x3',x4',x5',x6',x7']):=⟨i+1,_,x0,x1,x2,_,x4,x5,x6,us2,rfl,rfl,rfl,rfl,rfl,rfl,rfl,rfl,by go_num,by omega,m2,l2,b2,hide s2,hide r2⟩
       first|exact hrel2|((repeat apply Exists.intro);exact⟨hrel2,rfl⟩)
      case measure=>simp[intOf];omega
    ·obtain rfl:i=80:=by omega
     have hg2:(128:Int)≤(gk:Int):=by omega
     have HZ2:Hid (runH (blk512 K) 128 hs P 0 (q+1)=[(z0+x0)%18446744073709551616,(z1+x1)%18446744073709551616,(z2+x2)%18446744073709551616,(z3+x3)%18446744073709551616,(z4+x4)%18446744073709551616,(z5+x5)%18446744073709551616,(z6+x6)%18446744073709551616,(z7+x7)%18446744073709551616]):=hide (by
      rw[runH,←HL.out,blk512,HRN.out,HZ.out];rfl)
     go_wp2_with fail
     all_goals
      have HH:=hide h
      go_roundg (gk-128)
      case measure=>omega
      case rel=>exact⟨q+1,_,_,_,_,_,_,_,_,_,_,rfl,fun hpos=>by have h1:=HO.out;have h2:=HH.out;omega,by have:=HQ.out;omega,by have:=HH.out;omega,rfl,rfl,rfl,rfl,rfl,rfl,rfl,rfl,hm,⟨us,lu,hu⟩,HZ2⟩
  ·have hg1:¬(128:Int)≤(gk:Int):=by omega
   have hqq:q=P.length/128:=by rw[hq];omega
   have HQQ:=hide hqq
   have hdm:=hd.mod hm (by simp)
   have lh8:=hide lh
   clear hoo hq hqq hw lw ws lh hd hK lK hp lP hc hB mW HS0
   go_upto_region 35 with fail
   refine end512 _ _ d hs rest z0 z1 z2 z3 z4 z5 z6 z7 _ _ _ _ _ _ _ _ _ _ _ _ _ _ _ _ _ _ _ _ _ _ _ _ _ _ _ _ _ _ _ _ _ _ _ _ _ _ _ _ _ _ _ _ _ _ _ _ _ _ _ _ _ _ _ _ _ _ _ _ _ _ _ _ _ _ _ _ _ _ _ _ _ _ _ _ _ _ _ _ _ _ _ _ _ _ _ _ _ _ _ _ _ _ _ _ _ _ _ _ _ _ _ _ _ _ _ _ _ _ _ _ _ _ _ _ _ _ _ _ _ _ _ _ _ _ _ _ _ _ _ _ _ _ _ _ _ _ _ _ _ _ _ _ _ _ _ _ _ _ _ _ _ _ _ _ _ _ _ _ _ _ _ _ _ _ _ _ _ _ _ _ _ _ _ _ _ _ _ _ _ _ _ _ _ _ _ _ _ _ _ _ _ _ _ _ _ _ _ _ _ _ _ _ _ _ _ _ _ _ _ _ _ _ _ _ _ _ _ _ _ _ _ _ _ _ _ _ _ _ _ _ _ _ _ _ _ _ _ _ _ _ _ _ _ _ _ _ _ _ _ _ _ _ _ _ _ _ _ _ _ _ _ _ _ _ _ _ _ _ _ _ _ _ _ _ _ _ _ _ _ _ _ _ _ _ _ _ _ _ _ _ _ _ _ _ _ _ _ _ _ _ _ _ _ _ hdm lh8.out ?_
   intros
   rename_i w' hMw hBw
   go_end0
   rw[←HQQ.out,HZ.out]
   exact⟨rfl,hm.then1 hMw,hBw⟩
end Go.Proofs.YtfgmnbmnpihjdaaGreatDoor
