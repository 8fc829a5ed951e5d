/- Lemmas of mine for the walk and its plain laws: Priv2 PrivB PrivC -/
import Derived.Test.YtfgmnbmnpihjdaaGreatDoorM36
import Derived.Deep.RegionHeld3
import Derived.Deep.DeepCutAuto
set_option linter.all false
set_option exponentiation.threshold 7000000
set_option maxHeartbeats 16000000
namespace Go.Proofs.YtfgmnbmnpihjdaaGreatDoor
open Go.RowKit
def begins(n:Nat):Code→Bool
 | .region m _ _=>m == n
 | .seq a _=>begins n a
 |_=>false
def tailAt(n:Nat):Code→Option Code
 | .seq a b=>if begins n b then some b else match tailAt n b with
   |some c=>some c
   |none=>tailAt n a
 |_=>none
noncomputable def ktail(n:Nat):Code:=((Tryz.f119.body.bind (tailAt n)).getD .skip)
structure KOk(pv qv en dv iv Nv:Nat)(EP EQ:List Nat):Prop where
 no:Nv%2=1
 pN:pv<Nv
 qN:qv<Nv
 nv:Nv=pv*qv
 lP:EP.length=(blen (pv-1)+7)/8
 lQ:EQ.length=(blen (qv-1)+7)/8
 eP:bval EP=dv%(pv-1)
 eQ:bval EQ=dv%(qv-1)
 yP:Bytes EP
 yQ:Bytes EQ
 kl:KeyLaw pv qv en dv iv
 bN:blen Nv≤4000
 bp:blen pv≤4000
 bq:blen qv≤4000
structure PAt(w0:World)(k n en d p q qi pv qv dv iv Nv bP bQ:Nat)(EP EQ:List Nat)(w:World):Prop where
 ok:KOk pv qv en dv iv Nv EP EQ
 h0:Mod [] w0 w
 gk:w0.heap.size≤k
 hk:∃fl,PKey w k n en d p q (sl bP 0 EP.length EP.length) (sl bQ 0 EQ.length EQ.length) qi fl
 hn:MdAt w n Nv
 hp:MdAt w p pv
 hq:MdAt w q qv
 hd:NumAt w 0 d (wlen Nv) dv
 hi:NumAt w 0 qi (wlen pv) iv
 rP:Blk w bP 5 (EP.map u8)
 rQ:Blk w bQ 5 (EQ.map u8)
theorem PAt.up{w0:World}{k n en d p q qi pv qv dv iv Nv bP bQ:Nat}{EP EQ:List Nat}{w w':World}(h:PAt w0 k n en d p q qi pv qv dv iv Nv bP bQ EP EQ w)(m:Mod [] w w'):PAt w0 k n en d p q qi pv qv dv iv Nv bP bQ EP EQ w':=by
 obtain⟨a1,a2,a3,⟨fl,a4⟩,a5,a6,a7,a8,a9,a10,a11⟩:=h
 exact⟨a1,a2.then m,a3,⟨fl,Blk.up a4 m⟩,a5.mod m,a6.mod m,a7.mod m,a8.mod m,a9.mod m,Blk.up a10 m,Blk.up a11 m⟩
def KPost(w0:World)(k n en d p q qi pv qv dv iv Nv bP bQ:Nat)(EP EQ:List Nat):Ending→World→Prop:=fun e w'=>e=.returned .nilIface∧Mod [] w0 w'∧∃fl,PKey w' k n en d p q (sl bP 0 EP.length EP.length) (sl bQ 0 EQ.length EQ.length) qi fl
set_option maxRecDepth 1000000 in
def KPB(w0:World)(k n en d p q qi pv qv dv iv Nv bP bQ:Nat)(EP EQ:List Nat):Prop:=∀ (w:World) (u1_ u2_ u3_ u4_ u8_ u9_ u10_ u11_ u12_ u13_ u14_ u15_ u16_ u17_ u18_ u19_ u20_ u21_ u22_ u23_ u24_ u25_ u26_ u27_ u28_ u29_ u30_ u31_ u32_ u33_ u34_ u35_ u36_ u37_ u38_ u39_ u40_ u41_ u42_ u43_ u44_ u45_ u46_ u47_ u48_ u49_ u50_ u51_ u52_ u53_ u54_ u55_ u56_ u57_ u58_ u59_ u60_ u61_ u62_ u63_ u64_ u65_ u66_ u67_ u68_ u69_ u70_ u71_ u72_ u73_ u74_ u75_ u76_ u77_ u78_ u79_ u80_ u81_ u82_ u83_ u84_ u85_ u86_ u87_ u88_ u89_ u90_ u91_ u92_ u93_ u94_ u95_ u96_ u97_ u98_ u99_ u100_ u101_ u102_ u103_ u104_ u105_ u106_ u107_ u108_ u109_ u110_ u111_ u112_ u113_ u114_ u115_ u116_ u117_ u118_ u119_ u120_ u121_ u122_ u123_ u124_ u125_ u126_ u127_ u128_ u129_ u130_ u131_ u132_ u133_ u134_ u135_ u136_ u137_ u138_ u139_ u140_ u141_ u142_ u143_ u144_ u145_ u146_ u147_ u148_ u149_ u150_ u151_ u152_ u153_ u154_ u155_ u156_ u157_ u158_ u159_ u160_ u161_ u162_ u163_ u164_ u165_ u166_ u167_ u168_ u169_ u170_ u171_ u172_ u173_ u174_ u175_ u176_ u177_ u178_ u179_ u180_ u181_ u182_ u183_ u184_ u185_ u186_ u187_ u188_ u189_ u190_ u191_ u192_ u193_ u194_ u195_ u196_ u197_ u198_ u199_ u200_ u201_ u202_ u203_ u204_ u205_ u206_ u207_ u208_ u209_ u210_ u211_ u212_ u213_ u214_ u215_ u216_ u217_ u218_ u219_ u220_ u221_ u222_ u223_ u224_ u225_ u226_ u227_ u228_ u229_ u230_ u231_ u232_ u233_ u234_ u235_ u236_ u237_ u238_ u239_ u240_ u241_ u242_ u243_ u244_ u245_ u246_ u247_ u248_ u249_ u250_ u251_ u252_ u253_ u254_ u255_ u256_ u257_ u258_ u259_ u260_ u261_ u262_ u263_ u264_ u265_ u266_ u267_ u268_ u269_ u270_ u271_ u272_ u273_ u274_ u275_ u276_ u277_ u278_ u279_ u280_ u281_ u282_ u283_ u284_ u285_ u286_ u287_ u288_ u289_ u290_ u291_ u292_ u293_ u294_ u295_ u296_ u297_ u298_ u299_ u300_ u301_ u302_ u303_ u304_ u305_ u306_ u307_ u308_ u309_:Value),PAt w0 k n en d p q qi pv qv dv iv Nv bP bQ EP EQ w→Code.wp Tryz.prog (ktail 15) (bodyPost Tryz.prog Tryz.f119 (KPost w0 k n en d p q qi pv qv dv iv Nv bP bQ EP EQ)) ⟨#[ptr k,u1_,u2_,u3_,u4_,ptr n,ptr p,ptr q,u8_,u9_,u10_,u11_,u12_,u13_,u14_,u15_,u16_,u17_,u18_,u19_,u20_,u21_,u22_,u23_,u24_,u25_,u26_,u27_,u28_,u29_,u30_,u31_,u32_,u33_,u34_,u35_,u36_,u37_,u38_,u39_,u40_,u41_,u42_,u43_,u44_,u45_,u46_,u47_,u48_,u49_,u50_,u51_,u52_,u53_,u54_,u55_,u56_,u57_,u58_,u59_,u60_,u61_,u62_,u63_,u64_,u65_,u66_,u67_,u68_,u69_,u70_,u71_,u72_,u73_,u74_,u75_,u76_,u77_,u78_,u79_,u80_,u81_,u82_,u83_,u84_,u85_,u86_,u87_,u88_,u89_,u90_,u91_,u92_,u93_,u94_,u95_,u96_,u97_,u98_,u99_,u100_,u101_,u102_,u103_,u104_,u105_,u106_,u107_,u108_,u109_,u110_,u111_,u112_,u113_,u114_,u115_,u116_,u117_,u118_,u119_,u120_,u121_,u122_,u123_,u124_,u125_,u126_,u127_,u128_,u129_,u130_,u131_,u132_,u133_,u134_,u135_,u136_,u137_,u138_,u139_,u140_,u141_,u142_,u143_,u144_,u145_,u146_,u147_,u148_,u149_,u150_,u151_,u152_,u153_,u154_,u155_,u156_,u157_,u158_,u159_,u160_,u161_,u162_,u163_,u164_,u165_,u166_,u167_,u168_,u169_,u170_,u171_,u172_,u173_,u174_,u175_,u176_,u177_,u178_,u179_,u180_,u181_,u182_,u183_,u184_,u185_,u186_,u187_,u188_,u189_,u190_,u191_,u192_,u193_,u194_,u195_,u196_,u197_,u198_,u199_,u200_,u201_,u202_,u203_,u204_,u205_,u206_,u207_,u208_,u209_,u210_,u211_,u212_,u213_,u214_,u215_,u216_,u217_,u218_,u219_,u220_,u221_,u222_,u223_,u224_,u225_,u226_,u227_,u228_,u229_,u230_,u231_,u232_,u233_,u234_,u235_,u236_,u237_,u238_,u239_,u240_,u241_,u242_,u243_,u244_,u245_,u246_,u247_,u248_,u249_,u250_,u251_,u252_,u253_,u254_,u255_,u256_,u257_,u258_,u259_,u260_,u261_,u262_,u263_,u264_,u265_,u266_,u267_,u268_,u269_,u270_,u271_,u272_,u273_,u274_,u275_,u276_,u277_,u278_,u279_,u280_,u281_,u282_,u283_,u284_,u285_,u286_,u287_,u288_,u289_,u290_,u291_,u292_,u293_,u294_,u295_,u296_,u297_,u298_,u299_,u300_,u301_,u302_,u303_,u304_,u305_,u306_,u307_,u308_,u309_],[]⟩ w
set_option maxRecDepth 1000000 in
def KPC(w0:World)(k n en d p q qi pv qv dv iv Nv bP bQ:Nat)(EP EQ:List Nat):Prop:=∀ (w:World) (u1_ u2_ u3_ u4_ u8_ u9_ u10_ u11_ u12_ u13_ u14_ u15_ u16_ u17_ u18_ u19_ u20_ u21_ u22_ u23_ u24_ u25_ u26_ u27_ u28_ u29_ u30_ u31_ u32_ u33_ u34_ u35_ u36_ u37_ u38_ u39_ u40_ u41_ u42_ u43_ u44_ u45_ u46_ u47_ u48_ u49_ u50_ u51_ u52_ u53_ u54_ u55_ u56_ u57_ u58_ u59_ u60_ u61_ u62_ u63_ u64_ u65_ u66_ u67_ u68_ u69_ u70_ u71_ u72_ u73_ u74_ u75_ u76_ u77_ u78_ u79_ u80_ u81_ u82_ u83_ u84_ u85_ u86_ u87_ u88_ u89_ u90_ u91_ u92_ u93_ u94_ u95_ u96_ u97_ u98_ u99_ u100_ u101_ u102_ u103_ u104_ u105_ u106_ u107_ u108_ u109_ u110_ u111_ u112_ u113_ u114_ u115_ u116_ u117_ u118_ u119_ u120_ u121_ u122_ u123_ u124_ u125_ u126_ u127_ u128_ u129_ u130_ u131_ u132_ u133_ u134_ u135_ u136_ u137_ u138_ u139_ u140_ u141_ u142_ u143_ u144_ u145_ u146_ u147_ u148_ u149_ u150_ u151_ u152_ u153_ u154_ u155_ u156_ u157_ u158_ u159_ u160_ u161_ u162_ u163_ u164_ u165_ u166_ u167_ u168_ u169_ u170_ u171_ u172_ u173_ u174_ u175_ u176_ u177_ u178_ u179_ u180_ u181_ u182_ u183_ u184_ u185_ u186_ u187_ u188_ u189_ u190_ u191_ u192_ u193_ u194_ u195_ u196_ u197_ u198_ u199_ u200_ u201_ u202_ u203_ u204_ u205_ u206_ u207_ u208_ u209_ u210_ u211_ u212_ u213_ u214_ u215_ u216_ u217_ u218_ u219_ u220_ u221_ u222_ u223_ u224_ u225_ u226_ u227_ u228_ u229_ u230_ u231_ u232_ u233_ u234_ u235_ u236_ u237_ u238_ u239_ u240_ u241_ u242_ u243_ u244_ u245_ u246_ u247_ u248_ u249_ u250_ u251_ u252_ u253_ u254_ u255_ u256_ u257_ u258_ u259_ u260_ u261_ u262_ u263_ u264_ u265_ u266_ u267_ u268_ u269_ u270_ u271_ u272_ u273_ u274_ u275_ u276_ u277_ u278_ u279_ u280_ u281_ u282_ u283_ u284_ u285_ u286_ u287_ u288_ u289_ u290_ u291_ u292_ u293_ u294_ u295_ u296_ u297_ u298_ u299_ u300_ u301_ u302_ u303_ u304_ u305_ u306_ u307_ u308_ u309_:Value),PAt w0 k n en d p q qi pv qv dv iv Nv bP bQ EP EQ w→Code.wp Tryz.prog (ktail 25) (bodyPost Tryz.prog Tryz.f119 (KPost w0 k n en d p q qi pv qv dv iv Nv bP bQ EP EQ)) ⟨#[ptr k,u1_,u2_,u3_,u4_,ptr n,ptr p,ptr q,u8_,u9_,u10_,u11_,u12_,u13_,u14_,u15_,u16_,u17_,u18_,u19_,u20_,u21_,u22_,u23_,u24_,u25_,u26_,u27_,u28_,u29_,u30_,u31_,u32_,u33_,u34_,u35_,u36_,u37_,u38_,u39_,u40_,u41_,u42_,u43_,u44_,u45_,u46_,u47_,u48_,u49_,u50_,u51_,u52_,u53_,u54_,u55_,u56_,u57_,u58_,u59_,u60_,u61_,u62_,u63_,u64_,u65_,u66_,u67_,u68_,u69_,u70_,u71_,u72_,u73_,u74_,u75_,u76_,u77_,u78_,u79_,u80_,u81_,u82_,u83_,u84_,u85_,u86_,u87_,u88_,u89_,u90_,u91_,u92_,u93_,u94_,u95_,u96_,u97_,u98_,u99_,u100_,u101_,u102_,u103_,u104_,u105_,u106_,u107_,u108_,u109_,u110_,u111_,u112_,u113_,u114_,u115_,u116_,u117_,u118_,u119_,u120_,u121_,u122_,u123_,u124_,u125_,u126_,u127_,u128_,u129_,u130_,u131_,u132_,u133_,u134_,u135_,u136_,u137_,u138_,u139_,u140_,u141_,u142_,u143_,u144_,u145_,u146_,u147_,u148_,u149_,u150_,u151_,u152_,u153_,u154_,u155_,u156_,u157_,u158_,u159_,u160_,u161_,u162_,u163_,u164_,u165_,u166_,u167_,u168_,u169_,u170_,u171_,u172_,u173_,u174_,u175_,u176_,u177_,u178_,u179_,u180_,u181_,u182_,u183_,u184_,u185_,u186_,u187_,u188_,u189_,u190_,u191_,u192_,u193_,u194_,u195_,u196_,u197_,u198_,u199_,u200_,u201_,u202_,u203_,u204_,u205_,u206_,u207_,u208_,u209_,u210_,u211_,u212_,u213_,u214_,u215_,u216_,u217_,u218_,u219_,u220_,u221_,u222_,u223_,u224_,u225_,u226_,u227_,u228_,u229_,u230_,u231_,u232_,u233_,u234_,u235_,u236_,u237_,u238_,u239_,u240_,u241_,u242_,u243_,u244_,u245_,u246_,u247_,u248_,u249_,u250_,u251_,u252_,u253_,u254_,u255_,u256_,u257_,u258_,u259_,u260_,u261_,u262_,u263_,u264_,u265_,u266_,u267_,u268_,u269_,u270_,u271_,u272_,u273_,u274_,u275_,u276_,u277_,u278_,u279_,u280_,u281_,u282_,u283_,u284_,u285_,u286_,u287_,u288_,u289_,u290_,u291_,u292_,u293_,u294_,u295_,u296_,u297_,u298_,u299_,u300_,u301_,u302_,u303_,u304_,u305_,u306_,u307_,u308_,u309_],[]⟩ w
set_option maxRecDepth 1000000 in
def KPD(w0:World)(k n en d p q qi pv qv dv iv Nv bP bQ:Nat)(EP EQ:List Nat):Prop:=∀(m3 x4 x5 n5v:Nat) (w:World) (u1_ u2_ u3_ u4_ u8_ u9_ u10_ u11_ u12_ u13_ u15_ u18_ u19_ u20_ u21_ u22_ u23_ u24_ u25_ u26_ u27_ u28_ u29_ u30_ u31_ u32_ u33_ u34_ u35_ u36_ u37_ u38_ u39_ u40_ u41_ u42_ u43_ u44_ u45_ u46_ u47_ u48_ u49_ u50_ u51_ u52_ u53_ u54_ u55_ u56_ u57_ u58_ u59_ u60_ u61_ u62_ u63_ u64_ u65_ u66_ u67_ u68_ u69_ u70_ u71_ u72_ u73_ u74_ u75_ u76_ u77_ u78_ u79_ u80_ u81_ u82_ u83_ u84_ u85_ u86_ u87_ u88_ u89_ u90_ u91_ u92_ u93_ u94_ u95_ u96_ u97_ u98_ u99_ u100_ u101_ u102_ u103_ u104_ u105_ u106_ u107_ u108_ u109_ u110_ u111_ u112_ u113_ u114_ u115_ u116_ u117_ u118_ u119_ u120_ u121_ u122_ u123_ u124_ u125_ u126_ u127_ u128_ u129_ u130_ u131_ u132_ u133_ u134_ u135_ u136_ u137_ u138_ u139_ u140_ u141_ u142_ u143_ u144_ u145_ u146_ u147_ u148_ u149_ u150_ u151_ u152_ u153_ u154_ u155_ u156_ u157_ u158_ u159_ u160_ u161_ u162_ u163_ u164_ u165_ u166_ u167_ u168_ u169_ u170_ u171_ u172_ u173_ u174_ u175_ u176_ u177_ u178_ u179_ u180_ u181_ u182_ u183_ u184_ u185_ u186_ u187_ u188_ u189_ u190_ u191_ u192_ u193_ u194_ u195_ u196_ u197_ u198_ u199_ u200_ u201_ u202_ u203_ u204_ u205_ u206_ u207_ u208_ u209_ u210_ u211_ u212_ u213_ u214_ u215_ u216_ u217_ u218_ u219_ u220_ u221_ u222_ u223_ u224_ u225_ u226_ u227_ u228_ u229_ u230_ u231_ u232_ u233_ u234_ u235_ u236_ u237_ u238_ u239_ u240_ u241_ u242_ u243_ u244_ u245_ u246_ u247_ u248_ u249_ u250_ u251_ u252_ u253_ u254_ u255_ u256_ u257_ u258_ u259_ u260_ u261_ u262_ u263_ u264_ u265_ u266_ u267_ u268_ u269_ u270_ u271_ u272_ u273_ u274_ u275_ u276_ u277_ u278_ u279_ u280_ u281_ u282_ u283_ u284_ u285_ u286_ u287_ u288_ u289_ u290_ u291_ u292_ u293_ u294_ u295_ u296_ u297_ u298_ u299_ u300_ u301_ u302_ u303_ u304_ u305_ u306_ u307_ u308_ u309_:Value),(∃wg,PAt w0 k n en d p q qi pv qv dv iv Nv bP bQ EP EQ wg∧Mod [] wg w∧MdAt wg m3 (pv-1)∧NumAt wg 0 x4 (wlen (pv-1)) (dv%(pv-1))∧NumAt w wg.heap.size x5 n5v 1)→Code.wp Tryz.prog (ktail 36) (bodyPost Tryz.prog Tryz.f119 (KPost w0 k n en d p q qi pv qv dv iv Nv bP bQ EP EQ)) ⟨#[ptr k,u1_,u2_,u3_,u4_,ptr n,ptr p,ptr q,u8_,u9_,u10_,u11_,u12_,u13_,ptr m3,u15_,ptr x4,ptr x5,u18_,u19_,u20_,u21_,u22_,u23_,u24_,u25_,u26_,u27_,u28_,u29_,u30_,u31_,u32_,u33_,u34_,u35_,u36_,u37_,u38_,u39_,u40_,u41_,u42_,u43_,u44_,u45_,u46_,u47_,u48_,u49_,u50_,u51_,u52_,u53_,u54_,u55_,u56_,u57_,u58_,u59_,u60_,u61_,u62_,u63_,u64_,u65_,u66_,u67_,u68_,u69_,u70_,u71_,u72_,u73_,u74_,u75_,u76_,u77_,u78_,u79_,u80_,u81_,u82_,u83_,u84_,u85_,u86_,u87_,u88_,u89_,u90_,u91_,u92_,u93_,u94_,u95_,u96_,u97_,u98_,u99_,u100_,u101_,u102_,u103_,u104_,u105_,u106_,u107_,u108_,u109_,u110_,u111_,u112_,u113_,u114_,u115_,u116_,u117_,u118_,u119_,u120_,u121_,u122_,u123_,u124_,u125_,u126_,u127_,u128_,u129_,u130_,u131_,u132_,u133_,u134_,u135_,u136_,u137_,u138_,u139_,u140_,u141_,u142_,u143_,u144_,u145_,u146_,u147_,u148_,u149_,u150_,u151_,u152_,u153_,u154_,u155_,u156_,u157_,u158_,u159_,u160_,u161_,u162_,u163_,u164_,u165_,u166_,u167_,u168_,u169_,u170_,u171_,u172_,u173_,u174_,u175_,u176_,u177_,u178_,u179_,u180_,u181_,u182_,u183_,u184_,u185_,u186_,u187_,u188_,u189_,u190_,u191_,u192_,u193_,u194_,u195_,u196_,u197_,u198_,u199_,u200_,u201_,u202_,u203_,u204_,u205_,u206_,u207_,u208_,u209_,u210_,u211_,u212_,u213_,u214_,u215_,u216_,u217_,u218_,u219_,u220_,u221_,u222_,u223_,u224_,u225_,u226_,u227_,u228_,u229_,u230_,u231_,u232_,u233_,u234_,u235_,u236_,u237_,u238_,u239_,u240_,u241_,u242_,u243_,u244_,u245_,u246_,u247_,u248_,u249_,u250_,u251_,u252_,u253_,u254_,u255_,u256_,u257_,u258_,u259_,u260_,u261_,u262_,u263_,u264_,u265_,u266_,u267_,u268_,u269_,u270_,u271_,u272_,u273_,u274_,u275_,u276_,u277_,u278_,u279_,u280_,u281_,u282_,u283_,u284_,u285_,u286_,u287_,u288_,u289_,u290_,u291_,u292_,u293_,u294_,u295_,u296_,u297_,u298_,u299_,u300_,u301_,u302_,u303_,u304_,u305_,u306_,u307_,u308_,u309_],[]⟩ w
set_option maxRecDepth 1000000 in
def KPE(w0:World)(k n en d p q qi pv qv dv iv Nv bP bQ:Nat)(EP EQ:List Nat):Prop:=∀(m3 x4 m4 x6:Nat) (w:World) (u1_ u2_ u3_ u4_ u8_ u9_ u10_ u11_ u12_ u13_ u15_ u17_ u20_ u21_ u22_ u23_ u24_ u25_ u26_ u27_ u28_ u29_ u30_ u31_ u32_ u33_ u34_ u35_ u36_ u37_ u38_ u39_ u40_ u41_ u42_ u43_ u44_ u45_ u46_ u47_ u48_ u49_ u50_ u51_ u52_ u53_ u54_ u55_ u56_ u57_ u58_ u59_ u60_ u61_ u62_ u63_ u64_ u65_ u66_ u67_ u68_ u69_ u70_ u71_ u72_ u73_ u74_ u75_ u76_ u77_ u78_ u79_ u80_ u81_ u82_ u83_ u84_ u85_ u86_ u87_ u88_ u89_ u90_ u91_ u92_ u93_ u94_ u95_ u96_ u97_ u98_ u99_ u100_ u101_ u102_ u103_ u104_ u105_ u106_ u107_ u108_ u109_ u110_ u111_ u112_ u113_ u114_ u115_ u116_ u117_ u118_ u119_ u120_ u121_ u122_ u123_ u124_ u125_ u126_ u127_ u128_ u129_ u130_ u131_ u132_ u133_ u134_ u135_ u136_ u137_ u138_ u139_ u140_ u141_ u142_ u143_ u144_ u145_ u146_ u147_ u148_ u149_ u150_ u151_ u152_ u153_ u154_ u155_ u156_ u157_ u158_ u159_ u160_ u161_ u162_ u163_ u164_ u165_ u166_ u167_ u168_ u169_ u170_ u171_ u172_ u173_ u174_ u175_ u176_ u177_ u178_ u179_ u180_ u181_ u182_ u183_ u184_ u185_ u186_ u187_ u188_ u189_ u190_ u191_ u192_ u193_ u194_ u195_ u196_ u197_ u198_ u199_ u200_ u201_ u202_ u203_ u204_ u205_ u206_ u207_ u208_ u209_ u210_ u211_ u212_ u213_ u214_ u215_ u216_ u217_ u218_ u219_ u220_ u221_ u222_ u223_ u224_ u225_ u226_ u227_ u228_ u229_ u230_ u231_ u232_ u233_ u234_ u235_ u236_ u237_ u238_ u239_ u240_ u241_ u242_ u243_ u244_ u245_ u246_ u247_ u248_ u249_ u250_ u251_ u252_ u253_ u254_ u255_ u256_ u257_ u258_ u259_ u260_ u261_ u262_ u263_ u264_ u265_ u266_ u267_ u268_ u269_ u270_ u271_ u272_ u273_ u274_ u275_ u276_ u277_ u278_ u279_ u280_ u281_ u282_ u283_ u284_ u285_ u286_ u287_ u288_ u289_ u290_ u291_ u292_ u293_ u294_ u295_ u296_ u297_ u298_ u299_ u300_ u301_ u302_ u303_ u304_ u305_ u306_ u307_ u308_ u309_:Value),PAt w0 k n en d p q qi pv qv dv iv Nv bP bQ EP EQ w→MdAt w m3 (pv-1)→NumAt w 0 x4 (wlen (pv-1)) (dv%(pv-1))→MdAt w m4 (qv-1)→NumAt w 0 x6 (wlen (qv-1)) (dv%(qv-1))→Code.wp Tryz.prog (ktail 46) (bodyPost Tryz.prog Tryz.f119 (KPost w0 k n en d p q qi pv qv dv iv Nv bP bQ EP EQ)) ⟨#[ptr k,u1_,u2_,u3_,u4_,ptr n,ptr p,ptr q,u8_,u9_,u10_,u11_,u12_,u13_,ptr m3,u15_,ptr x4,u17_,ptr m4,ptr x6,u20_,u21_,u22_,u23_,u24_,u25_,u26_,u27_,u28_,u29_,u30_,u31_,u32_,u33_,u34_,u35_,u36_,u37_,u38_,u39_,u40_,u41_,u42_,u43_,u44_,u45_,u46_,u47_,u48_,u49_,u50_,u51_,u52_,u53_,u54_,u55_,u56_,u57_,u58_,u59_,u60_,u61_,u62_,u63_,u64_,u65_,u66_,u67_,u68_,u69_,u70_,u71_,u72_,u73_,u74_,u75_,u76_,u77_,u78_,u79_,u80_,u81_,u82_,u83_,u84_,u85_,u86_,u87_,u88_,u89_,u90_,u91_,u92_,u93_,u94_,u95_,u96_,u97_,u98_,u99_,u100_,u101_,u102_,u103_,u104_,u105_,u106_,u107_,u108_,u109_,u110_,u111_,u112_,u113_,u114_,u115_,u116_,u117_,u118_,u119_,u120_,u121_,u122_,u123_,u124_,u125_,u126_,u127_,u128_,u129_,u130_,u131_,u132_,u133_,u134_,u135_,u136_,u137_,u138_,u139_,u140_,u141_,u142_,u143_,u144_,u145_,u146_,u147_,u148_,u149_,u150_,u151_,u152_,u153_,u154_,u155_,u156_,u157_,u158_,u159_,u160_,u161_,u162_,u163_,u164_,u165_,u166_,u167_,u168_,u169_,u170_,u171_,u172_,u173_,u174_,u175_,u176_,u177_,u178_,u179_,u180_,u181_,u182_,u183_,u184_,u185_,u186_,u187_,u188_,u189_,u190_,u191_,u192_,u193_,u194_,u195_,u196_,u197_,u198_,u199_,u200_,u201_,u202_,u203_,u204_,u205_,u206_,u207_,u208_,u209_,u210_,u211_,u212_,u213_,u214_,u215_,u216_,u217_,u218_,u219_,u220_,u221_,u222_,u223_,u224_,u225_,u226_,u227_,u228_,u229_,u230_,u231_,u232_,u233_,u234_,u235_,u236_,u237_,u238_,u239_,u240_,u241_,u242_,u243_,u244_,u245_,u246_,u247_,u248_,u249_,u250_,u251_,u252_,u253_,u254_,u255_,u256_,u257_,u258_,u259_,u260_,u261_,u262_,u263_,u264_,u265_,u266_,u267_,u268_,u269_,u270_,u271_,u272_,u273_,u274_,u275_,u276_,u277_,u278_,u279_,u280_,u281_,u282_,u283_,u284_,u285_,u286_,u287_,u288_,u289_,u290_,u291_,u292_,u293_,u294_,u295_,u296_,u297_,u298_,u299_,u300_,u301_,u302_,u303_,u304_,u305_,u306_,u307_,u308_,u309_],[]⟩ w
set_option maxRecDepth 1000000 in
def KPG(w0:World)(k n en d p q qi pv qv dv iv Nv bP bQ:Nat)(EP EQ:List Nat):Prop:=∀(m3 x4 m4 x6:Nat) (w:World) (u1_ u2_ u3_ u4_ u8_ u9_ u10_ u11_ u12_ u13_ u15_ u17_ u20_ u21_ u22_ u23_ u24_ u25_ u26_ u27_ u28_ u29_ u30_ u31_ u32_ u33_ u34_ u35_ u36_ u37_ u38_ u39_ u40_ u41_ u42_ u43_ u44_ u45_ u46_ u47_ u48_ u49_ u50_ u51_ u52_ u53_ u54_ u55_ u56_ u57_ u58_ u59_ u60_ u61_ u62_ u63_ u64_ u65_ u66_ u67_ u68_ u69_ u70_ u71_ u72_ u73_ u74_ u75_ u76_ u77_ u78_ u79_ u80_ u81_ u82_ u83_ u84_ u85_ u86_ u87_ u88_ u89_ u90_ u91_ u92_ u93_ u94_ u95_ u96_ u97_ u98_ u99_ u100_ u101_ u102_ u103_ u104_ u105_ u106_ u107_ u108_ u109_ u110_ u111_ u112_ u113_ u114_ u115_ u116_ u117_ u118_ u119_ u120_ u121_ u122_ u123_ u124_ u125_ u126_ u127_ u128_ u129_ u130_ u131_ u132_ u133_ u134_ u135_ u136_ u137_ u138_ u139_ u140_ u141_ u142_ u143_ u144_ u145_ u146_ u147_ u148_ u149_ u150_ u151_ u152_ u153_ u154_ u155_ u156_ u157_ u158_ u159_ u160_ u161_ u162_ u163_ u164_ u165_ u166_ u167_ u168_ u169_ u170_ u171_ u172_ u173_ u174_ u175_ u176_ u177_ u178_ u179_ u180_ u181_ u182_ u183_ u184_ u185_ u186_ u187_ u188_ u189_ u190_ u191_ u192_ u193_ u194_ u195_ u196_ u197_ u198_ u199_ u200_ u201_ u202_ u203_ u204_ u205_ u206_ u207_ u208_ u209_ u210_ u211_ u212_ u213_ u214_ u215_ u216_ u217_ u218_ u219_ u220_ u221_ u222_ u223_ u224_ u225_ u226_ u227_ u228_ u229_ u230_ u231_ u232_ u233_ u234_ u235_ u236_ u237_ u238_ u239_ u240_ u241_ u242_ u243_ u244_ u245_ u246_ u247_ u248_ u249_ u250_ u251_ u252_ u253_ u254_ u255_ u256_ u257_ u258_ u259_ u260_ u261_ u262_ u263_ u264_ u265_ u266_ u267_ u268_ u269_ u270_ u271_ u272_ u273_ u274_ u275_ u276_ u277_ u278_ u279_ u280_ u281_ u282_ u283_ u284_ u285_ u286_ u287_ u288_ u289_ u290_ u291_ u292_ u293_ u294_ u295_ u296_ u297_ u298_ u299_ u300_ u301_ u302_ u303_ u304_ u305_ u306_ u307_ u308_ u309_:Value),PAt w0 k n en d p q qi pv qv dv iv Nv bP bQ EP EQ w→MdAt w m3 (pv-1)→NumAt w 0 x4 (wlen (pv-1)) (dv%(pv-1))→MdAt w m4 (qv-1)→NumAt w 0 x6 (wlen (qv-1)) (dv%(qv-1))→Code.wp Tryz.prog (ktail 51) (bodyPost Tryz.prog Tryz.f119 (KPost w0 k n en d p q qi pv qv dv iv Nv bP bQ EP EQ)) ⟨#[ptr k,u1_,u2_,u3_,u4_,ptr n,ptr p,ptr q,u8_,u9_,u10_,u11_,u12_,u13_,ptr m3,u15_,ptr x4,u17_,ptr m4,ptr x6,u20_,u21_,u22_,u23_,u24_,u25_,u26_,u27_,u28_,u29_,u30_,u31_,u32_,u33_,u34_,u35_,u36_,u37_,u38_,u39_,u40_,u41_,u42_,u43_,u44_,u45_,u46_,u47_,u48_,u49_,u50_,u51_,u52_,u53_,u54_,u55_,u56_,u57_,u58_,u59_,u60_,u61_,u62_,u63_,u64_,u65_,u66_,u67_,u68_,u69_,u70_,u71_,u72_,u73_,u74_,u75_,u76_,u77_,u78_,u79_,u80_,u81_,u82_,u83_,u84_,u85_,u86_,u87_,u88_,u89_,u90_,u91_,u92_,u93_,u94_,u95_,u96_,u97_,u98_,u99_,u100_,u101_,u102_,u103_,u104_,u105_,u106_,u107_,u108_,u109_,u110_,u111_,u112_,u113_,u114_,u115_,u116_,u117_,u118_,u119_,u120_,u121_,u122_,u123_,u124_,u125_,u126_,u127_,u128_,u129_,u130_,u131_,u132_,u133_,u134_,u135_,u136_,u137_,u138_,u139_,u140_,u141_,u142_,u143_,u144_,u145_,u146_,u147_,u148_,u149_,u150_,u151_,u152_,u153_,u154_,u155_,u156_,u157_,u158_,u159_,u160_,u161_,u162_,u163_,u164_,u165_,u166_,u167_,u168_,u169_,u170_,u171_,u172_,u173_,u174_,u175_,u176_,u177_,u178_,u179_,u180_,u181_,u182_,u183_,u184_,u185_,u186_,u187_,u188_,u189_,u190_,u191_,u192_,u193_,u194_,u195_,u196_,u197_,u198_,u199_,u200_,u201_,u202_,u203_,u204_,u205_,u206_,u207_,u208_,u209_,u210_,u211_,u212_,u213_,u214_,u215_,u216_,u217_,u218_,u219_,u220_,u221_,u222_,u223_,u224_,u225_,u226_,u227_,u228_,u229_,u230_,u231_,u232_,u233_,u234_,u235_,u236_,u237_,u238_,u239_,u240_,u241_,u242_,u243_,u244_,u245_,u246_,u247_,u248_,u249_,u250_,u251_,u252_,u253_,u254_,u255_,u256_,u257_,u258_,u259_,u260_,u261_,u262_,u263_,u264_,u265_,u266_,u267_,u268_,u269_,u270_,u271_,u272_,u273_,u274_,u275_,u276_,u277_,u278_,u279_,u280_,u281_,u282_,u283_,u284_,u285_,u286_,u287_,u288_,u289_,u290_,u291_,u292_,u293_,u294_,u295_,u296_,u297_,u298_,u299_,u300_,u301_,u302_,u303_,u304_,u305_,u306_,u307_,u308_,u309_],[]⟩ w
set_option maxRecDepth 1000000 in
def KPF(w0:World)(k n en d p q qi pv qv dv iv Nv bP bQ:Nat)(EP EQ:List Nat):Prop:=∀ (w:World) (u1_ u2_ u3_ u4_ u8_ u9_ u10_ u11_ u12_ u13_ u14_ u15_ u16_ u17_ u18_ u19_ u20_ u21_ u22_ u23_ u24_ u25_ u26_ u27_ u28_ u29_ u30_ u31_ u32_ u33_ u34_ u35_ u36_ u37_ u38_ u39_ u40_ u41_ u42_ u43_ u44_ u45_ u46_ u47_ u48_ u49_ u50_ u51_ u52_ u53_ u54_ u55_ u56_ u57_ u58_ u59_ u60_ u61_ u62_ u63_ u64_ u65_ u66_ u67_ u68_ u69_ u70_ u71_ u72_ u73_ u74_ u75_ u76_ u77_ u78_ u79_ u80_ u81_ u82_ u83_ u84_ u85_ u86_ u87_ u88_ u89_ u90_ u91_ u92_ u93_ u94_ u95_ u96_ u97_ u98_ u99_ u100_ u101_ u102_ u103_ u104_ u105_ u106_ u107_ u108_ u109_ u110_ u111_ u112_ u113_ u114_ u115_ u116_ u117_ u118_ u119_ u120_ u121_ u122_ u123_ u124_ u125_ u126_ u127_ u128_ u129_ u130_ u131_ u132_ u133_ u134_ u135_ u136_ u137_ u138_ u139_ u140_ u141_ u142_ u143_ u144_ u145_ u146_ u147_ u148_ u149_ u150_ u151_ u152_ u153_ u154_ u155_ u156_ u157_ u158_ u159_ u160_ u161_ u162_ u163_ u164_ u165_ u166_ u167_ u168_ u169_ u170_ u171_ u172_ u173_ u174_ u175_ u176_ u177_ u178_ u179_ u180_ u181_ u182_ u183_ u184_ u185_ u186_ u187_ u188_ u189_ u190_ u191_ u192_ u193_ u194_ u195_ u196_ u197_ u198_ u199_ u200_ u201_ u202_ u203_ u204_ u205_ u206_ u207_ u208_ u209_ u210_ u211_ u212_ u213_ u214_ u215_ u216_ u217_ u218_ u219_ u220_ u221_ u222_ u223_ u224_ u225_ u226_ u227_ u228_ u229_ u230_ u231_ u232_ u233_ u234_ u235_ u236_ u237_ u238_ u239_ u240_ u241_ u242_ u243_ u244_ u245_ u246_ u247_ u248_ u249_ u250_ u251_ u252_ u253_ u254_ u255_ u256_ u257_ u258_ u259_ u260_ u261_ u262_ u263_ u264_ u265_ u266_ u267_ u268_ u269_ u270_ u271_ u272_ u273_ u274_ u275_ u276_ u277_ u278_ u279_ u280_ u281_ u282_ u283_ u284_ u285_ u286_ u287_ u288_ u289_ u290_ u291_ u292_ u293_ u294_ u295_ u296_ u297_ u298_ u299_ u300_ u301_ u302_ u303_ u304_ u305_ u306_ u307_ u308_ u309_:Value),PAt w0 k n en d p q qi pv qv dv iv Nv bP bQ EP EQ w→Code.wp Tryz.prog (ktail 57) (bodyPost Tryz.prog Tryz.f119 (KPost w0 k n en d p q qi pv qv dv iv Nv bP bQ EP EQ)) ⟨#[ptr k,u1_,u2_,u3_,u4_,ptr n,ptr p,ptr q,u8_,u9_,u10_,u11_,u12_,u13_,u14_,u15_,u16_,u17_,u18_,u19_,u20_,u21_,u22_,u23_,u24_,u25_,u26_,u27_,u28_,u29_,u30_,u31_,u32_,u33_,u34_,u35_,u36_,u37_,u38_,u39_,u40_,u41_,u42_,u43_,u44_,u45_,u46_,u47_,u48_,u49_,u50_,u51_,u52_,u53_,u54_,u55_,u56_,u57_,u58_,u59_,u60_,u61_,u62_,u63_,u64_,u65_,u66_,u67_,u68_,u69_,u70_,u71_,u72_,u73_,u74_,u75_,u76_,u77_,u78_,u79_,u80_,u81_,u82_,u83_,u84_,u85_,u86_,u87_,u88_,u89_,u90_,u91_,u92_,u93_,u94_,u95_,u96_,u97_,u98_,u99_,u100_,u101_,u102_,u103_,u104_,u105_,u106_,u107_,u108_,u109_,u110_,u111_,u112_,u113_,u114_,u115_,u116_,u117_,u118_,u119_,u120_,u121_,u122_,u123_,u124_,u125_,u126_,u127_,u128_,u129_,u130_,u131_,u132_,u133_,u134_,u135_,u136_,u137_,u138_,u139_,u140_,u141_,u142_,u143_,u144_,u145_,u146_,u147_,u148_,u149_,u150_,u151_,u152_,u153_,u154_,u155_,u156_,u157_,u158_,u159_,u160_,u161_,u162_,u163_,u164_,u165_,u166_,u167_,u168_,u169_,u170_,u171_,u172_,u173_,u174_,u175_,u176_,u177_,u178_,u179_,u180_,u181_,u182_,u183_,u184_,u185_,u186_,u187_,u188_,u189_,u190_,u191_,u192_,u193_,u194_,u195_,u196_,u197_,u198_,u199_,u200_,u201_,u202_,u203_,u204_,u205_,u206_,u207_,u208_,u209_,u210_,u211_,u212_,u213_,u214_,u215_,u216_,u217_,u218_,u219_,u220_,u221_,u222_,u223_,u224_,u225_,u226_,u227_,u228_,u229_,u230_,u231_,u232_,u233_,u234_,u235_,u236_,u237_,u238_,u239_,u240_,u241_,u242_,u243_,u244_,u245_,u246_,u247_,u248_,u249_,u250_,u251_,u252_,u253_,u254_,u255_,u256_,u257_,u258_,u259_,u260_,u261_,u262_,u263_,u264_,u265_,u266_,u267_,u268_,u269_,u270_,u271_,u272_,u273_,u274_,u275_,u276_,u277_,u278_,u279_,u280_,u281_,u282_,u283_,u284_,u285_,u286_,u287_,u288_,u289_,u290_,u291_,u292_,u293_,u294_,u295_,u296_,u297_,u298_,u299_,u300_,u301_,u302_,u303_,u304_,u305_,u306_,u307_,u308_,u309_],[]⟩ w
set_option maxRecDepth 1000000 in
theorem k_privB(w0:World)(k n en d p q qi pv qv dv iv Nv bP bQ:Nat)(EP EQ:List Nat)(hC:KPC w0 k n en d p q qi pv qv dv iv Nv bP bQ EP EQ):KPB w0 k n en d p q qi pv qv dv iv Nv bP bQ EP EQ:=by
 intro wz u1_ u2_ u3_ u4_ u8_ u9_ u10_ u11_ u12_ u13_ u14_ u15_ u16_ u17_ u18_ u19_ u20_ u21_ u22_ u23_ u24_ u25_ u26_ u27_ u28_ u29_ u30_ u31_ u32_ u33_ u34_ u35_ u36_ u37_ u38_ u39_ u40_ u41_ u42_ u43_ u44_ u45_ u46_ u47_ u48_ u49_ u50_ u51_ u52_ u53_ u54_ u55_ u56_ u57_ u58_ u59_ u60_ u61_ u62_ u63_ u64_ u65_ u66_ u67_ u68_ u69_ u70_ u71_ u72_ u73_ u74_ u75_ u76_ u77_ u78_ u79_ u80_ u81_ u82_ u83_ u84_ u85_ u86_ u87_ u88_ u89_ u90_ u91_ u92_ u93_ u94_ u95_ u96_ u97_ u98_ u99_ u100_ u101_ u102_ u103_ u104_ u105_ u106_ u107_ u108_ u109_ u110_ u111_ u112_ u113_ u114_ u115_ u116_ u117_ u118_ u119_ u120_ u121_ u122_ u123_ u124_ u125_ u126_ u127_ u128_ u129_ u130_ u131_ u132_ u133_ u134_ u135_ u136_ u137_ u138_ u139_ u140_ u141_ u142_ u143_ u144_ u145_ u146_ u147_ u148_ u149_ u150_ u151_ u152_ u153_ u154_ u155_ u156_ u157_ u158_ u159_ u160_ u161_ u162_ u163_ u164_ u165_ u166_ u167_ u168_ u169_ u170_ u171_ u172_ u173_ u174_ u175_ u176_ u177_ u178_ u179_ u180_ u181_ u182_ u183_ u184_ u185_ u186_ u187_ u188_ u189_ u190_ u191_ u192_ u193_ u194_ u195_ u196_ u197_ u198_ u199_ u200_ u201_ u202_ u203_ u204_ u205_ u206_ u207_ u208_ u209_ u210_ u211_ u212_ u213_ u214_ u215_ u216_ u217_ u218_ u219_ u220_ u221_ u222_ u223_ u224_ u225_ u226_ u227_ u228_ u229_ u230_ u231_ u232_ u233_ u234_ u235_ u236_ u237_ u238_ u239_ u240_ u241_ u242_ u243_ u244_ u245_ u246_ u247_ u248_ u249_ u250_ u251_ u252_ u253_ u254_ u255_ u256_ u257_ u258_ u259_ u260_ u261_ u262_ u263_ u264_ u265_ u266_ u267_ u268_ u269_ u270_ u271_ u272_ u273_ u274_ u275_ u276_ u277_ u278_ u279_ u280_ u281_ u282_ u283_ u284_ u285_ u286_ u287_ u288_ u289_ u290_ u291_ u292_ u293_ u294_ u295_ u296_ u297_ u298_ u299_ u300_ u301_ u302_ u303_ u304_ u305_ u306_ u307_ u308_ u309_ A
 have K:=A.ok
 have p3:=K.kl.p3
 have q3:=K.kl.q3
 have hpN:=K.pN
 have hqN:=K.qN
 have HNO:=hide K.no
 have HNV:=hide K.nv
 have LP:=hide K.lP
 have LQ:=hide K.lQ
 have EPv:=hide K.eP
 have EQv:=hide K.eQ
 have yP:=K.yP
 have yQ:=K.yQ
 have KLh:=hide K.kl
 have blN:=K.bN
 have blp:=K.bp
 have blq:=K.bq
 have p1:1≤pv:=by omega
 have q1:1≤qv:=by omega
 have hpNl:=Nat.le_of_lt hpN
 have hqNl:=Nat.le_of_lt hqN
 have hcv:IntKind.u64.wrap (en:Int)=(en:Int):=IntWalk.u64_in _ (by have:=K.kl.eb;omega)
 obtain⟨fl,hkz⟩:=A.hk
 have hz0:=A.h0
 have gk:=A.gk
 have hnz:=A.hn
 have hpz:=A.hp
 have hqz:=A.hq
 have hdz:=A.hd
 have hiz:=A.hi
 have rPz:=A.rP
 have rQz:=A.rQ
 clear A K
 have bz:Mod [] wz wz:=Mod.refl _ _
 conv=>arg 2;whnf
 go_wp2_with fail
 refine(k_New _).mono ?_
 rintro e v1 ⟨x1,rfl,mm,n1⟩
 replace n1:=n1.mono bz.size
 have bv1:=bz.then mm
 clear mm bz
 go_wp2_with fail
 refine(k_Expand _ _ x1 _ _ n _ n1 (hnz.mod bv1) (Nat.zero_le _)).mono ?_
 rintro e v2 ⟨rfl,f,n'⟩
 have nn_:=n' bv1.size
 have bv2:=f.back bv1 n1
 clear n1 n' f bv1
 have n1:=nn_
 clear nn_
 go_wp2_with fail
 refine(k_Nat _ p _ (hpz.mod bv2)).mono ?_
 rintro e v3 ⟨t1,rfl,mm,nt⟩
 replace nt:=nt.mono bv2.size
 replace n1:=(n1.mod mm)
 have bv3:=bv2.then mm
 clear mm bv2
 go_wp2_with fail
 refine(k_Bytes _ _ t1 _ _ p _ nt (hpz.mod bv3) (lt_size_self _) (by omega)).mono ?_
 rintro e v4 ⟨bka,Ba,rfl,mm,rwa,gba,lB,hBa,eB⟩
 clear nt
 replace n1:=(n1.mod mm)
 have bv4:=bv3.then mm
 clear mm bv3
 have LBa:=hide lB
 have EBa:=hide eB
 clear lB eB gba
 go_wp2_with fail
 refine(k_SetBytes _ _ x1 _ _ n _ _ Ba n1 (hnz.mod bv4) (GotB.row rwa hBa) (ApartN.row rwa _ _) (MSep.base bv4 hnz n1) (by rw[LBa.out];exact(fit_le hpNl)) (by rw[LBa.out];exact(size_pos (by omega))) (by rw[EBa.out];exact hpN)).mono ?_
 rintro e v5 ⟨rfl,f,n'⟩
 rw[EBa.out]at n'
 have nn_:=n' bv4.size
 have bv5:=f.back bv4 n1
 clear n1 n' f bv4
 have n1:=nn_
 clear nn_
 clear rwa LBa EBa hBa
 go_wp2_with fail
 have c1v5:Mod [] v5 v5:=Mod.refl _ _
 refine(k_New _).mono ?_
 rintro e v6 ⟨x2,rfl,mm,nx2⟩
 replace nx2:=nx2.mono c1v5.size
 have bv6:=c1v5.then mm
 clear mm c1v5
 go_wp2_with fail
 refine(k_Expand _ _ x2 _ _ n _ nx2 (hnz.mod (bv5.then bv6)) (Nat.zero_le _)).mono ?_
 rintro e v7 ⟨rfl,f,n'⟩
 have nn_:=n' bv6.size
 have bv7:=f.back bv6 nx2
 clear nx2 n' f bv6
 have nx2:=nn_
 clear nn_
 go_wp2_with fail
 refine(k_Nat _ q _ (hqz.mod (bv5.then bv7))).mono ?_
 rintro e v8 ⟨t1,rfl,mm,nt⟩
 replace nt:=nt.mono bv7.size
 replace nx2:=(nx2.mod mm)
 have bv8:=bv7.then mm
 clear mm bv7
 go_wp2_with fail
 refine(k_Bytes _ _ t1 _ _ q _ nt (hqz.mod (bv5.then bv8)) (lt_size_self _) (by omega)).mono ?_
 rintro e v9 ⟨bka,Ba,rfl,mm,rwa,gba,lB,hBa,eB⟩
 clear nt
 replace nx2:=(nx2.mod mm)
 have bv9:=bv8.then mm
 clear mm bv8
 have LBa:=hide lB
 have EBa:=hide eB
 clear lB eB gba
 go_wp2_with fail
 refine(k_SetBytes _ _ x2 _ _ n _ _ Ba nx2 (hnz.mod (bv5.then bv9)) (GotB.row rwa hBa) (ApartN.row rwa _ _) (MSep.base bv9 (hnz.mod bv5) nx2) (by rw[LBa.out];exact(fit_le hqNl)) (by rw[LBa.out];exact(size_pos (by omega))) (by rw[EBa.out];exact hqN)).mono ?_
 rintro e v10 ⟨rfl,f,n'⟩
 rw[EBa.out]at n'
 have nn_:=n' bv9.size
 have bv10:=f.back bv9 nx2
 clear nx2 n' f bv9
 have nx2:=nn_
 clear nn_
 clear rwa LBa EBa hBa
 go_wp2_with fail
 replace n1:=(n1.mod bv10)
 have d2v10:=bv5.then bv10
 clear bv5 bv10
 refine(k_Mul _ _ x1 _ n _ _ x2 _ d2v10 hnz HNO.out n1 nx2 hpN).mono ?_
 rintro e v11 ⟨rfl,f,-,n'⟩
 have nn_:=n'
 have bv11:=f.back d2v10 n1
 clear n1 n' f d2v10
 have n1:=nn_
 clear nn_
 go_wp2_with fail
 refine(k_IsZero _ _ x1 _ _ n1).mono ?_
 rintro e w' ⟨rfl,rfl⟩
 rw[show eqB (pv*qv%Nv) 0=1 from eqB_one (by rw[HNV.out];exact Nat.mod_self _)]
 clear n1
 clear nx2
 go_upto_if 112 with fail
 go_cut []from 112 to 113 (fun wx=>wx=v11)
 case first=>
  go_wp2_with fail
  go_meet
  rfl
 case rest=>
  obtain rfl:=hcut
  apply_assumption
  exact hC _ _ _ _ _ _ _ _ _ _ _ _ _ _ _ _ _ _ _ _ _ _ _ _ _ _ _ _ _ _ _ _ _ _ _ _ _ _ _ _ _ _ _ _ _ _ _ _ _ _ _ _ _ _ _ _ _ _ _ _ _ _ _ _ _ _ _ _ _ _ _ _ _ _ _ _ _ _ _ _ _ _ _ _ _ _ _ _ _ _ _ _ _ _ _ _ _ _ _ _ _ _ _ _ _ _ _ _ _ _ _ _ _ _ _ _ _ _ _ _ _ _ _ _ _ _ _ _ _ _ _ _ _ _ _ _ _ _ _ _ _ _ _ _ _ _ _ _ _ _ _ _ _ _ _ _ _ _ _ _ _ _ _ _ _ _ _ _ _ _ _ _ _ _ _ _ _ _ _ _ _ _ _ _ _ _ _ _ _ _ _ _ _ _ _ _ _ _ _ _ _ _ _ _ _ _ _ _ _ _ _ _ _ _ _ _ _ _ _ _ _ _ _ _ _ _ _ _ _ _ _ _ _ _ _ _ _ _ _ _ _ _ _ _ _ _ _ _ _ _ _ _ _ _ _ _ _ _ _ _ _ _ _ _ _ _ _ _ _ _ _ _ _ _ _ _ _ _ _ _ _ _ _ _ _ _ _ _ _ _ _ _ _ _ _ _ _ _ _ _ _ _ _ _ _ _ _ ⟨⟨HNO.out,hpN,hqN,HNV.out,LP.out,LQ.out,EPv.out,EQv.out,yP,yQ,KLh.out,blN,blp,blq⟩,(hz0.then bv11),gk,⟨fl,(Blk.up hkz bv11)⟩,(hnz.mod bv11),(hpz.mod bv11),(hqz.mod bv11),(hdz.mod bv11),(hiz.mod bv11),(Blk.up rPz bv11),(Blk.up rQz bv11)⟩
set_option maxRecDepth 1000000 in
theorem k_privC(w0:World)(k n en d p q qi pv qv dv iv Nv bP bQ:Nat)(EP EQ:List Nat)(hD:KPD w0 k n en d p q qi pv qv dv iv Nv bP bQ EP EQ):KPC w0 k n en d p q qi pv qv dv iv Nv bP bQ EP EQ:=by
 intro wz u1_ u2_ u3_ u4_ u8_ u9_ u10_ u11_ u12_ u13_ u14_ u15_ u16_ u17_ u18_ u19_ u20_ u21_ u22_ u23_ u24_ u25_ u26_ u27_ u28_ u29_ u30_ u31_ u32_ u33_ u34_ u35_ u36_ u37_ u38_ u39_ u40_ u41_ u42_ u43_ u44_ u45_ u46_ u47_ u48_ u49_ u50_ u51_ u52_ u53_ u54_ u55_ u56_ u57_ u58_ u59_ u60_ u61_ u62_ u63_ u64_ u65_ u66_ u67_ u68_ u69_ u70_ u71_ u72_ u73_ u74_ u75_ u76_ u77_ u78_ u79_ u80_ u81_ u82_ u83_ u84_ u85_ u86_ u87_ u88_ u89_ u90_ u91_ u92_ u93_ u94_ u95_ u96_ u97_ u98_ u99_ u100_ u101_ u102_ u103_ u104_ u105_ u106_ u107_ u108_ u109_ u110_ u111_ u112_ u113_ u114_ u115_ u116_ u117_ u118_ u119_ u120_ u121_ u122_ u123_ u124_ u125_ u126_ u127_ u128_ u129_ u130_ u131_ u132_ u133_ u134_ u135_ u136_ u137_ u138_ u139_ u140_ u141_ u142_ u143_ u144_ u145_ u146_ u147_ u148_ u149_ u150_ u151_ u152_ u153_ u154_ u155_ u156_ u157_ u158_ u159_ u160_ u161_ u162_ u163_ u164_ u165_ u166_ u167_ u168_ u169_ u170_ u171_ u172_ u173_ u174_ u175_ u176_ u177_ u178_ u179_ u180_ u181_ u182_ u183_ u184_ u185_ u186_ u187_ u188_ u189_ u190_ u191_ u192_ u193_ u194_ u195_ u196_ u197_ u198_ u199_ u200_ u201_ u202_ u203_ u204_ u205_ u206_ u207_ u208_ u209_ u210_ u211_ u212_ u213_ u214_ u215_ u216_ u217_ u218_ u219_ u220_ u221_ u222_ u223_ u224_ u225_ u226_ u227_ u228_ u229_ u230_ u231_ u232_ u233_ u234_ u235_ u236_ u237_ u238_ u239_ u240_ u241_ u242_ u243_ u244_ u245_ u246_ u247_ u248_ u249_ u250_ u251_ u252_ u253_ u254_ u255_ u256_ u257_ u258_ u259_ u260_ u261_ u262_ u263_ u264_ u265_ u266_ u267_ u268_ u269_ u270_ u271_ u272_ u273_ u274_ u275_ u276_ u277_ u278_ u279_ u280_ u281_ u282_ u283_ u284_ u285_ u286_ u287_ u288_ u289_ u290_ u291_ u292_ u293_ u294_ u295_ u296_ u297_ u298_ u299_ u300_ u301_ u302_ u303_ u304_ u305_ u306_ u307_ u308_ u309_ A
 have K:=A.ok
 have p3:=K.kl.p3
 have q3:=K.kl.q3
 have hpN:=K.pN
 have hqN:=K.qN
 have HNO:=hide K.no
 have HNV:=hide K.nv
 have LP:=hide K.lP
 have LQ:=hide K.lQ
 have EPv:=hide K.eP
 have EQv:=hide K.eQ
 have yP:=K.yP
 have yQ:=K.yQ
 have KLh:=hide K.kl
 have blN:=K.bN
 have blp:=K.bp
 have blq:=K.bq
 have p1:1≤pv:=by omega
 have q1:1≤qv:=by omega
 have hpNl:=Nat.le_of_lt hpN
 have hqNl:=Nat.le_of_lt hqN
 have hcv:IntKind.u64.wrap (en:Int)=(en:Int):=IntWalk.u64_in _ (by have:=K.kl.eb;omega)
 obtain⟨fl,hkz⟩:=A.hk
 have hz0:=A.h0
 have gk:=A.gk
 have hnz:=A.hn
 have hpz:=A.hp
 have hqz:=A.hq
 have hdz:=A.hd
 have hiz:=A.hi
 have rPz:=A.rP
 have rQz:=A.rQ
 clear A K
 have bz:Mod [] wz wz:=Mod.refl _ _
 conv=>arg 2;whnf
 go_wp2_with fail
 refine(k_Nat _ p _ (hpz.mod bz)).mono ?_
 rintro e v1 ⟨t1,rfl,mm,nt⟩
 replace nt:=nt.mono bz.size
 have bv1:=bz.then mm
 clear mm bz
 go_wp2_with fail
 refine(k_SubOne _ _ t1 _ p _ bv1 hpz nt p1).mono ?_
 rintro e v2 ⟨rfl,f,-,n'⟩
 have nn_:=n'
 have bv2:=f.back bv1 nt
 clear nt n' f bv1
 have nt:=nn_
 clear nn_
 go_wp2_with fail
 refine(k_Bytes _ _ t1 _ _ p _ nt (hpz.mod bv2) (lt_size (Nat.sub_lt p1 Nat.one_pos)) (by omega)).mono ?_
 rintro e v3 ⟨bka,Ba,rfl,mm,rwa,gba,lB,hBa,eB⟩
 clear nt
 have bv3:=bv2.then mm
 clear mm bv2
 have LBa:=hide lB
 have EBa:=hide eB
 clear lB eB gba
 go_wp2_with fail
 refine(k_NewModulus _ _ Ba (GotB.row rwa hBa) (by rw[LBa.out];exact(by omega)) (by rw[EBa.out];exact(by omega))).mono ?_
 rintro e v4 ⟨m3,rfl,mm,hm3,hsep⟩
 rw[EBa.out]at hm3
 have bv4:=bv3.then mm
 clear mm bv3
 clear hsep
 clear rwa LBa EBa hBa
 go_wp2_with fail
 replace hz0:=(hz0.then bv4)
 replace hkz:=(Blk.up hkz bv4)
 replace hnz:=(hnz.mod bv4)
 replace hpz:=(hpz.mod bv4)
 replace hqz:=(hqz.mod bv4)
 replace hdz:=(hdz.mod bv4)
 replace hiz:=(hiz.mod bv4)
 replace rPz:=(Blk.up rPz bv4)
 replace rQz:=(Blk.up rQz bv4)
 clear bv4
 have cv4:Mod [] v4 v4:=Mod.refl _ _
 have kc:=PKey.c5 (Blk.up hkz cv4)
 go_region_held3 (fun w'=>w'.cell? ⟨k,5,none⟩=some (sl bP 0 EP.length EP.length)∧Mod [] v4 w')
  (first|exact⟨cell_up kc mm,mm⟩|exact⟨cell_up kc mm1,mm1⟩|exact KHeld.drew ⟨kc,Mod.refl _ _⟩|assumption)
  (first|(go_at_call 84;refine(k_New _).mono ?_;rintro e v5 ⟨x4,rfl,mm1,n4⟩;replace mm1:Mod [] v4 v5:=mm1.ofDrew)|(go_at_call 85;replace n4:NumAt _ v4.heap.size _ _ _:=n4;refine(k_SetBytes _ _ x4 _ _ m3 _ _ EP n4 (MdAt.mod (hm3.mod cv4) mm1) (GotB.row (Blk.up (Blk.up rPz cv4) mm1) yP) (ApartN.row (Blk.up (Blk.up rPz cv4) mm1) _ _) (MSep.base mm1 (hm3.mod cv4) n4) (by rw[LP.out];exact(fit_le (Nat.le_refl _))) (by rw[LP.out];exact(size_pos (by omega))) (by rw[EPv.out];exact(Nat.mod_lt _ (by omega)))).mono ?_;rintro e v6 ⟨rfl,f,n'⟩;rw[EPv.out]at n';have mm:=f.back mm1 n4;have n2:=n' mm1.size))
 clear kc n4 n' f mm1
 have n4:=n2
 clear n2
 replace n4:=n4.mono cv4.size
 have bv6:=cv4.then mm
 clear mm cv4
 go_wp2_with fail
 replace hz0:=(hz0.then bv6)
 replace hkz:=(Blk.up hkz bv6)
 replace hnz:=(hnz.mod bv6)
 replace hpz:=(hpz.mod bv6)
 replace hqz:=(hqz.mod bv6)
 replace hdz:=(hdz.mod bv6)
 replace hiz:=(hiz.mod bv6)
 replace rPz:=(Blk.up rPz bv6)
 replace rQz:=(Blk.up rQz bv6)
 replace hm3:=(hm3.mod bv6)
 clear bv6
 have cv6:Mod [] v6 v6:=Mod.refl _ _
 have A9:PAt w0 k n en d p q qi pv qv dv iv Nv bP bQ EP EQ v6:=⟨⟨HNO.out,hpN,hqN,HNV.out,LP.out,LQ.out,EPv.out,EQv.out,yP,yQ,KLh.out,blN,blp,blq⟩,(hz0.then cv6),gk,⟨fl,(Blk.up hkz cv6)⟩,(hnz.mod cv6),(hpz.mod cv6),(hqz.mod cv6),(hdz.mod cv6),(hiz.mod cv6),(Blk.up rPz cv6),(Blk.up rQz cv6)⟩
 have hm9:=hm3
 have n49:=n4
 refine(k_New _).mono ?_
 rintro e v7 ⟨x5,rfl,mm,n5⟩
 replace n5:=n5.mono cv6.size
 have bv7:=cv6.then mm
 clear mm cv6
 have kc:=PKey.c1 (Blk.up hkz bv7)
 go_wp2_with fail
 refine(k_SetUint _ _ x5 _ _ en n5 (Nat.lt_of_le_of_lt KLh.out.eb (by decide))).mono ?_
 rintro e v8 ⟨rfl,f,n'⟩
 have nn_:=n' bv7.size
 have bv8:=f.back bv7 n5
 clear n5 n' f bv7
 have n5:=nn_
 clear nn_
 go_wp2_with fail
 clear kc
 refine(k_Expand _ _ x5 _ _ m3 _ n5 (hm3.mod bv8) (wlen_pos (by omega))).mono ?_
 rintro e v9 ⟨rfl,f,n'⟩
 have nn_:=n' bv8.size
 have bv9:=f.back bv8 n5
 clear n5 n' f bv8
 have n5:=nn_
 clear nn_
 go_wp2_with fail
 refine(k_MulE _ _ x5 _ m3 _ _ x4 _ (hm3.mod bv9) (pred_even p1 KLh.out.po) (wlen_pred KLh.out.pl) (MSep.base bv9 hm3 n5) n5 (n4.mod bv9) KLh.out.ep).mono ?_
 rintro e v10 ⟨rfl,f,n'⟩
 have nn_:=n' bv9.size
 have bv10:=f.back bv9 n5
 clear n5 n' f bv9
 have n5:=nn_
 clear nn_
 go_wp2_with fail
 rw[KLh.out.dp]at n5
 refine(k_IsOne _ _ x5 _ _ n5).mono ?_
 rintro e w' ⟨rfl,rfl⟩
 rw[eqB_self]
 go_upto_if 157 with fail
 go_cut []from 157 to 158 (fun wx=>wx=v10)
 case first=>
  go_wp2_with fail
  go_meet
  rfl
 case rest=>
  obtain rfl:=hcut
  apply_assumption
  exact hD _ _ _ _ _ _ _ _ _ _ _ _ _ _ _ _ _ _ _ _ _ _ _ _ _ _ _ _ _ _ _ _ _ _ _ _ _ _ _ _ _ _ _ _ _ _ _ _ _ _ _ _ _ _ _ _ _ _ _ _ _ _ _ _ _ _ _ _ _ _ _ _ _ _ _ _ _ _ _ _ _ _ _ _ _ _ _ _ _ _ _ _ _ _ _ _ _ _ _ _ _ _ _ _ _ _ _ _ _ _ _ _ _ _ _ _ _ _ _ _ _ _ _ _ _ _ _ _ _ _ _ _ _ _ _ _ _ _ _ _ _ _ _ _ _ _ _ _ _ _ _ _ _ _ _ _ _ _ _ _ _ _ _ _ _ _ _ _ _ _ _ _ _ _ _ _ _ _ _ _ _ _ _ _ _ _ _ _ _ _ _ _ _ _ _ _ _ _ _ _ _ _ _ _ _ _ _ _ _ _ _ _ _ _ _ _ _ _ _ _ _ _ _ _ _ _ _ _ _ _ _ _ _ _ _ _ _ _ _ _ _ _ _ _ _ _ _ _ _ _ _ _ _ _ _ _ _ _ _ _ _ _ _ _ _ _ _ _ _ _ _ _ _ _ _ _ _ _ _ _ _ _ _ _ _ _ _ _ _ _ _ _ _ _ _ _ _ _ _ _ _ _ _ _ _ _ _ _  ⟨v6,A9,bv10,hm9,n49.mono (Nat.zero_le _),n5⟩
end Go.Proofs.YtfgmnbmnpihjdaaGreatDoor
