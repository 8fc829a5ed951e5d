/- Lemmas of mine for the walk and its plain laws: NumC KeyM SpecZ2 SpecOp -/
import Derived.Test.YtfgmnbmnpihjdaaGreatDoorM43
import Derived.Test.YtfgmnbmnpihjdaaGreatDoorM31
import Derived.Test.YtfgmnbmnpihjdaaGreatDoorM40
import Derived.Test.YtfgmnbmnpihjdaaGreatDoorM25
import Derived.Test.YtfgmnbmnpihjdaaGreatDoorM42
import Derived.Test.YtfgmnbmnpihjdaaGreatDoorM36
set_option linter.all false
set_option exponentiation.threshold 7000000
set_option maxHeartbeats 4000000
namespace Go.Proofs.YtfgmnbmnpihjdaaGreatDoor
set_option maxRecDepth 100000
theorem pr_17:Prm 17:=small_prime 5 (by decide) (by decide) (by decide +kernel)
theorem pr_31:Prm 31:=small_prime 6 (by decide) (by decide) (by decide +kernel)
theorem pr_41:Prm 41:=small_prime 7 (by decide) (by decide) (by decide +kernel)
theorem pr_53:Prm 53:=small_prime 8 (by decide) (by decide) (by decide +kernel)
theorem pr_131:Prm 131:=small_prime 12 (by decide) (by decide) (by decide +kernel)
theorem pr_157:Prm 157:=small_prime 13 (by decide) (by decide) (by decide +kernel)
theorem pr_521:Prm 521:=small_prime 23 (by decide) (by decide) (by decide +kernel)
theorem pr_1613:Prm 1613:=small_prime 41 (by decide) (by decide) (by decide +kernel)
theorem pr_2731:Prm 2731:=small_prime 53 (by decide) (by decide) (by decide +kernel)
theorem pr_8191:Prm 8191:=small_prime 91 (by decide) (by decide) (by decide +kernel)
theorem pr_42641:Prm 42641:=small_prime 207 (by decide) (by decide) (by decide +kernel)
theorem pr_51481:Prm 51481:=small_prime 227 (by decide) (by decide) (by decide +kernel)
theorem pr_61681:Prm 61681:=small_prime 249 (by decide) (by decide) (by decide +kernel)
theorem pr_1051:Prm 1051:=small_prime 33 (by decide) (by decide) (by decide +kernel)
theorem pr_409891:Prm 409891:=pock [(1051,1,3)] (by decide +kernel) ⟨pr_1051,trivial⟩
theorem pr_2:Prm 2:=small_prime 2 (by decide) (by decide) (by decide +kernel)
theorem pr_5:Prm 5:=small_prime 3 (by decide) (by decide) (by decide +kernel)
theorem pr_858001:Prm 858001:=pock [(2,4,17),(5,3,3)] (by decide +kernel) ⟨pr_2,pr_5,trivial⟩
theorem pr_13:Prm 13:=small_prime 4 (by decide) (by decide) (by decide +kernel)
theorem pr_5746001:Prm 5746001:=pock [(5,3,5),(13,2,3)] (by decide +kernel) ⟨pr_5,pr_13,trivial⟩
theorem pr_37:Prm 37:=small_prime 7 (by decide) (by decide) (by decide +kernel)
theorem pr_7623851:Prm 7623851:=pock [(5,2,3),(13,1,2),(37,1,3)] (by decide +kernel) ⟨pr_5,pr_13,pr_37,trivial⟩
theorem pr_19:Prm 19:=small_prime 5 (by decide) (by decide) (by decide +kernel)
theorem pr_34110701:Prm 34110701:=pock [(5,2,5),(13,1,2),(19,1,3)] (by decide +kernel) ⟨pr_5,pr_13,pr_19,trivial⟩
theorem pr_49481:Prm 49481:=small_prime 223 (by decide) (by decide) (by decide +kernel)
theorem pr_308761441:Prm 308761441:=pock [(49481,1,3)] (by decide +kernel) ⟨pr_49481,trivial⟩
theorem pr_6864797660130609714981900799081393217269435300143305409394463459185543183397656052122559640661454554977296311391480858037121987999716643812574028291115057151:Prm 6864797660130609714981900799081393217269435300143305409394463459185543183397656052122559640661454554977296311391480858037121987999716643812574028291115057151:=pock [(17,1,3),(31,1,3),(41,1,3),(53,1,3),(131,1,3),(157,1,3),(521,1,2),(1613,1,3),(2731,1,3),(8191,1,3),(42641,1,3),(51481,1,3),(61681,1,3),(409891,1,3),(858001,1,3),(5746001,1,3),(7623851,1,3),(34110701,1,3),(308761441,1,3)] (by decide +kernel) ⟨pr_17,pr_31,pr_41,pr_53,pr_131,pr_157,pr_521,pr_1613,pr_2731,pr_8191,pr_42641,pr_51481,pr_61681,pr_409891,pr_858001,pr_5746001,pr_7623851,pr_34110701,pr_308761441,trivial⟩
theorem pr_3:Prm 3:=small_prime 2 (by decide) (by decide) (by decide +kernel)
theorem pr_101:Prm 101:=small_prime 11 (by decide) (by decide) (by decide +kernel)
theorem pr_79241:Prm 79241:=small_prime 282 (by decide) (by decide) (by decide +kernel)
theorem pr_341117531003194129:Prm 341117531003194129:=pock [(2,4,11),(3,2,3),(101,1,2),(79241,1,3)] (by decide +kernel) ⟨pr_2,pr_3,pr_101,pr_79241,trivial⟩
theorem pr_251:Prm 251:=small_prime 16 (by decide) (by decide) (by decide +kernel)
theorem pr_601:Prm 601:=small_prime 25 (by decide) (by decide) (by decide +kernel)
theorem pr_1801:Prm 1801:=small_prime 43 (by decide) (by decide) (by decide +kernel)
theorem pr_845100400152152934331135470251:Prm 845100400152152934331135470251:=pock [(5,3,3),(31,1,3),(41,1,3),(101,1,2),(251,1,3),(601,1,3),(1801,1,3)] (by decide +kernel) ⟨pr_5,pr_31,pr_41,pr_101,pr_251,pr_601,pr_1801,trivial⟩
theorem pr_107:Prm 107:=small_prime 11 (by decide) (by decide) (by decide +kernel)
theorem pr_137:Prm 137:=small_prime 12 (by decide) (by decide) (by decide +kernel)
theorem pr_181:Prm 181:=small_prime 14 (by decide) (by decide) (by decide +kernel)
theorem pr_50530807:Prm 50530807:=pock [(3,2,3),(31,1,2),(137,1,2)] (by decide +kernel) ⟨pr_3,pr_31,pr_137,trivial⟩
theorem pr_66397480399:Prm 66397480399:=pock [(50530807,1,2)] (by decide +kernel) ⟨pr_50530807,trivial⟩
theorem pr_394648008200183351537110552328867:Prm 394648008200183351537110552328867:=pock [(107,1,2),(137,1,2),(181,1,2),(66397480399,1,2)] (by decide +kernel) ⟨pr_107,pr_137,pr_181,pr_66397480399,trivial⟩
theorem pr_19112684214957755703306290219340140859813072336321619:Prm 19112684214957755703306290219340140859813072336321619:=pock [(394648008200183351537110552328867,1,3)] (by decide +kernel) ⟨pr_394648008200183351537110552328867,trivial⟩
theorem pr_531137992816767098689588206552468627329593117727031923199444138200403559860852242739162502265229285668889329486246501015346579337652707239409519978766587351943831270835393219031728127:Prm 531137992816767098689588206552468627329593117727031923199444138200403559860852242739162502265229285668889329486246501015346579337652707239409519978766587351943831270835393219031728127:=pock [(341117531003194129,1,3),(845100400152152934331135470251,1,3),(19112684214957755703306290219340140859813072336321619,1,3)] (by decide +kernel) ⟨pr_341117531003194129,pr_845100400152152934331135470251,pr_19112684214957755703306290219340140859813072336321619,trivial⟩
theorem pr_353:Prm 353:=small_prime 19 (by decide) (by decide) (by decide +kernel)
theorem pr_57467:Prm 57467:=small_prime 240 (by decide) (by decide) (by decide +kernel)
theorem pr_132049:Prm 132049:=small_prime 364 (by decide) (by decide) (by decide +kernel)
theorem pr_3727:Prm 3727:=small_prime 62 (by decide) (by decide) (by decide +kernel)
theorem pr_1923133:Prm 1923133:=pock [(3727,1,2)] (by decide +kernel) ⟨pr_3727,trivial⟩
theorem pr_223:Prm 223:=small_prime 15 (by decide) (by decide) (by decide +kernel)
theorem pr_4153:Prm 4153:=small_prime 65 (by decide) (by decide) (by decide +kernel)
theorem pr_31757755568855353:Prm 31757755568855353:=pock [(31,1,2),(107,1,2),(223,1,2),(4153,1,2)] (by decide +kernel) ⟨pr_31,pr_107,pr_223,pr_4153,trivial⟩
theorem pr_74058212732561358302231226437062788676166966415465897661863160754340907:Prm 74058212732561358302231226437062788676166966415465897661863160754340907:=pock [(3,1,2),(353,1,2),(57467,1,2),(132049,1,2),(1923133,1,2),(31757755568855353,1,2)] (by decide +kernel) ⟨pr_3,pr_353,pr_57467,pr_132049,pr_1923133,pr_31757755568855353,trivial⟩
theorem pr_57896044618658097711785492504343953926634992332820282019728792003956564819949:Prm 57896044618658097711785492504343953926634992332820282019728792003956564819949:=pock [(74058212732561358302231226437062788676166966415465897661863160754340907,1,2)] (by decide +kernel) ⟨pr_74058212732561358302231226437062788676166966415465897661863160754340907,trivial⟩
theorem pr_11:Prm 11:=small_prime 4 (by decide) (by decide) (by decide +kernel)
theorem pr_23:Prm 23:=small_prime 5 (by decide) (by decide) (by decide +kernel)
theorem pr_204061199:Prm 204061199:=pock [(11,1,3),(23,1,2),(107,1,2)] (by decide +kernel) ⟨pr_11,pr_23,pr_107,trivial⟩
theorem pr_34282281433:Prm 34282281433:=pock [(204061199,1,2)] (by decide +kernel) ⟨pr_204061199,trivial⟩
theorem pr_18169:Prm 18169:=small_prime 135 (by decide) (by decide) (by decide +kernel)
theorem pr_78283:Prm 78283:=small_prime 280 (by decide) (by decide) (by decide +kernel)
theorem pr_46076956964474543:Prm 46076956964474543:=pock [(18169,1,2),(78283,1,2)] (by decide +kernel) ⟨pr_18169,pr_78283,trivial⟩
theorem pr_774023187263532362759620327192479577272145303:Prm 774023187263532362759620327192479577272145303:=pock [(34282281433,1,2),(46076956964474543,1,2)] (by decide +kernel) ⟨pr_34282281433,pr_46076956964474543,trivial⟩
theorem pr_835945042244614951780389953367877943453916927241:Prm 835945042244614951780389953367877943453916927241:=pock [(774023187263532362759620327192479577272145303,1,2)] (by decide +kernel) ⟨pr_774023187263532362759620327192479577272145303,trivial⟩
theorem pr_115792089210356248762697446949407573530086143415290314195533631308867097853951:Prm 115792089210356248762697446949407573530086143415290314195533631308867097853951:=pock [(835945042244614951780389953367877943453916927241,1,2)] (by decide +kernel) ⟨pr_835945042244614951780389953367877943453916927241,trivial⟩
theorem pr_8389:Prm 8389:=small_prime 92 (by decide) (by decide) (by decide +kernel)
theorem pr_38557:Prm 38557:=small_prime 197 (by decide) (by decide) (by decide +kernel)
theorem pr_3253:Prm 3253:=small_prime 58 (by decide) (by decide) (by decide +kernel)
theorem pr_312289:Prm 312289:=pock [(3253,1,2)] (by decide +kernel) ⟨pr_3253,trivial⟩
theorem pr_59:Prm 59:=small_prime 8 (by decide) (by decide) (by decide +kernel)
theorem pr_599:Prm 599:=small_prime 25 (by decide) (by decide) (by decide +kernel)
theorem pr_513928823:Prm 513928823:=pock [(59,1,2),(599,1,2)] (by decide +kernel) ⟨pr_59,pr_599,trivial⟩
theorem pr_53448597593:Prm 53448597593:=pock [(513928823,1,2)] (by decide +kernel) ⟨pr_513928823,trivial⟩
theorem pr_1357291859799823621:Prm 1357291859799823621:=pock [(53448597593,1,2)] (by decide +kernel) ⟨pr_53448597593,trivial⟩
theorem pr_7:Prm 7:=small_prime 3 (by decide) (by decide) (by decide +kernel)
theorem pr_211:Prm 211:=small_prime 15 (by decide) (by decide) (by decide +kernel)
theorem pr_105957871:Prm 105957871:=pock [(5,1,2),(19,1,2),(211,1,2)] (by decide +kernel) ⟨pr_5,pr_19,pr_211,trivial⟩
theorem pr_529709925838459440593:Prm 529709925838459440593:=pock [(7,1,2),(181,1,2),(105957871,1,2)] (by decide +kernel) ⟨pr_7,pr_181,pr_105957871,trivial⟩
theorem pr_19173790298027098165721053155794528970226934547887232785722672956982046098136719667167519737147526097:Prm 19173790298027098165721053155794528970226934547887232785722672956982046098136719667167519737147526097:=pock [(8389,1,2),(38557,1,2),(312289,1,2),(1357291859799823621,1,2),(529709925838459440593,1,2)] (by decide +kernel) ⟨pr_8389,pr_38557,pr_312289,pr_1357291859799823621,pr_529709925838459440593,trivial⟩
theorem pr_39402006196394479212279040100143613805079739270465446667948293404245721771496870329047266088258938001861606973112319:Prm 39402006196394479212279040100143613805079739270465446667948293404245721771496870329047266088258938001861606973112319:=pock [(19173790298027098165721053155794528970226934547887232785722672956982046098136719667167519737147526097,1,2)] (by decide +kernel) ⟨pr_19173790298027098165721053155794528970226934547887232785722672956982046098136719667167519737147526097,trivial⟩
theorem pr_29:Prm 29:=small_prime 6 (by decide) (by decide) (by decide +kernel)
theorem pr_411743:Prm 411743:=pock [(29,1,2),(31,1,2)] (by decide +kernel) ⟨pr_29,pr_31,trivial⟩
theorem pr_1469495262398780123809:Prm 1469495262398780123809:=pock [(2,5,17),(7,2,3),(223,1,2),(411743,1,3)] (by decide +kernel) ⟨pr_2,pr_7,pr_223,pr_411743,trivial⟩
theorem pr_67:Prm 67:=small_prime 9 (by decide) (by decide) (by decide +kernel)
theorem pr_197:Prm 197:=small_prime 15 (by decide) (by decide) (by decide +kernel)
theorem pr_271:Prm 271:=small_prime 17 (by decide) (by decide) (by decide +kernel)
theorem pr_97859369123353:Prm 97859369123353:=pock [(3,2,2),(67,1,2),(197,1,2),(271,1,2)] (by decide +kernel) ⟨pr_3,pr_67,pr_197,pr_271,trivial⟩
theorem pr_167773885276849215533569:Prm 167773885276849215533569:=pock [(97859369123353,1,3)] (by decide +kernel) ⟨pr_97859369123353,trivial⟩
theorem pr_217003:Prm 217003:=small_prime 466 (by decide) (by decide) (by decide +kernel)
theorem pr_1764234391:Prm 1764234391:=pock [(217003,1,2)] (by decide +kernel) ⟨pr_217003,trivial⟩
theorem pr_34741861125639557:Prm 34741861125639557:=pock [(1764234391,1,2)] (by decide +kernel) ⟨pr_1764234391,trivial⟩
theorem pr_36131535570665139281:Prm 36131535570665139281:=pock [(34741861125639557,1,2)] (by decide +kernel) ⟨pr_34741861125639557,trivial⟩
theorem pr_596242599987116128415063:Prm 596242599987116128415063:=pock [(36131535570665139281,1,3)] (by decide +kernel) ⟨pr_36131535570665139281,trivial⟩
theorem pr_726838724295606890549323807888004534353641360687318060281490199180612328166730772686396383698676545930088884461843637361053498018365439:Prm 726838724295606890549323807888004534353641360687318060281490199180612328166730772686396383698676545930088884461843637361053498018365439:=pock [(1469495262398780123809,1,2),(167773885276849215533569,1,2),(596242599987116128415063,1,2)] (by decide +kernel) ⟨pr_1469495262398780123809,pr_167773885276849215533569,pr_596242599987116128415063,trivial⟩
theorem pr_1627:Prm 1627:=small_prime 41 (by decide) (by decide) (by decide +kernel)
theorem pr_2657:Prm 2657:=small_prime 52 (by decide) (by decide) (by decide +kernel)
theorem pr_4423:Prm 4423:=small_prime 67 (by decide) (by decide) (by decide +kernel)
theorem pr_41201:Prm 41201:=small_prime 203 (by decide) (by decide) (by decide +kernel)
theorem pr_96557:Prm 96557:=small_prime 311 (by decide) (by decide) (by decide +kernel)
theorem pr_255515944373312847190720520512484175977:Prm 255515944373312847190720520512484175977:=pock [(1627,1,2),(2657,1,2),(4423,1,2),(41201,1,2),(96557,1,2)] (by decide +kernel) ⟨pr_1627,pr_2657,pr_4423,pr_41201,pr_96557,trivial⟩
theorem pr_205115282021455665897114700593932402728804164701536103180137503955397371:Prm 205115282021455665897114700593932402728804164701536103180137503955397371:=pock [(255515944373312847190720520512484175977,1,2)] (by decide +kernel) ⟨pr_255515944373312847190720520512484175977,trivial⟩
theorem pr_115792089237316195423570985008687907853269984665640564039457584007908834671663:Prm 115792089237316195423570985008687907853269984665640564039457584007908834671663:=pock [(205115282021455665897114700593932402728804164701536103180137503955397371,1,2)] (by decide +kernel) ⟨pr_205115282021455665897114700593932402728804164701536103180137503955397371,trivial⟩
theorem pr_257:Prm 257:=small_prime 17 (by decide) (by decide) (by decide +kernel)
theorem pr_641:Prm 641:=small_prime 26 (by decide) (by decide) (by decide +kernel)
theorem pr_26959946667150639794667015087019630673557916260026308143510066298881:Prm 26959946667150639794667015087019630673557916260026308143510066298881:=pock [(2,96,11),(257,1,2),(641,1,2)] (by decide +kernel) ⟨pr_2,pr_257,pr_641,trivial⟩
theorem pr_43:Prm 43:=small_prime 7 (by decide) (by decide) (by decide +kernel)
theorem pr_2477:Prm 2477:=small_prime 50 (by decide) (by decide) (by decide +kernel)
theorem pr_54251:Prm 54251:=small_prime 233 (by decide) (by decide) (by decide +kernel)
theorem pr_108341181769254293:Prm 108341181769254293:=pock [(43,1,2),(2477,1,2),(54251,1,2)] (by decide +kernel) ⟨pr_43,pr_2477,pr_54251,trivial⟩
theorem pr_8413201:Prm 8413201:=pock [(2,4,7),(3,3,5),(5,2,3)] (by decide +kernel) ⟨pr_2,pr_3,pr_5,trivial⟩
theorem pr_252396031:Prm 252396031:=pock [(8413201,1,2)] (by decide +kernel) ⟨pr_8413201,trivial⟩
theorem pr_455827231987:Prm 455827231987:=pock [(252396031,1,2)] (by decide +kernel) ⟨pr_252396031,trivial⟩
theorem pr_5933177618131140283:Prm 5933177618131140283:=pock [(455827231987,1,2)] (by decide +kernel) ⟨pr_455827231987,trivial⟩
theorem pr_288626509448065367648032903:Prm 288626509448065367648032903:=pock [(5933177618131140283,1,2)] (by decide +kernel) ⟨pr_5933177618131140283,trivial⟩
theorem pr_6277101735386680763835789423207666416083908700390324961279:Prm 6277101735386680763835789423207666416083908700390324961279:=pock [(108341181769254293,1,2),(288626509448065367648032903,1,2)] (by decide +kernel) ⟨pr_108341181769254293,pr_288626509448065367648032903,trivial⟩
theorem pr_208147:Prm 208147:=small_prime 457 (by decide) (by decide) (by decide +kernel)
theorem pr_30406113761:Prm 30406113761:=pock [(208147,1,2)] (by decide +kernel) ⟨pr_208147,trivial⟩
theorem pr_19505309445451:Prm 19505309445451:=pock [(3,5,3),(5,2,2),(17,1,2),(131,1,2)] (by decide +kernel) ⟨pr_3,pr_5,pr_17,pr_131,trivial⟩
theorem pr_214824846426985860661:Prm 214824846426985860661:=pock [(19505309445451,1,2)] (by decide +kernel) ⟨pr_19505309445451,trivial⟩
theorem pr_6015095699955604098509:Prm 6015095699955604098509:=pock [(214824846426985860661,1,2)] (by decide +kernel) ⟨pr_214824846426985860661,trivial⟩
theorem pr_2249645791783395932842367:Prm 2249645791783395932842367:=pock [(6015095699955604098509,1,2)] (by decide +kernel) ⟨pr_6015095699955604098509,trivial⟩
theorem pr_68521:Prm 68521:=small_prime 262 (by decide) (by decide) (by decide +kernel)
theorem pr_904340159:Prm 904340159:=pock [(68521,1,2)] (by decide +kernel) ⟨pr_68521,trivial⟩
theorem pr_39286345187279:Prm 39286345187279:=pock [(904340159,1,2)] (by decide +kernel) ⟨pr_904340159,trivial⟩
theorem pr_2928325597569402103:Prm 2928325597569402103:=pock [(39286345187279,1,2)] (by decide +kernel) ⟨pr_39286345187279,trivial⟩
theorem pr_9632869229268961407429404857:Prm 9632869229268961407429404857:=pock [(2928325597569402103,1,2)] (by decide +kernel) ⟨pr_2928325597569402103,trivial⟩
theorem pr_42307582002575910332922579714097346549017899709713998034217522897561970639123926132812109468141778230245837569601494931472367:Prm 42307582002575910332922579714097346549017899709713998034217522897561970639123926132812109468141778230245837569601494931472367:=pock [(30406113761,1,2),(2249645791783395932842367,1,2),(9632869229268961407429404857,1,2)] (by decide +kernel) ⟨pr_30406113761,pr_2249645791783395932842367,pr_9632869229268961407429404857,trivial⟩
theorem prime_p521:Prm (2^521-1):=by
 have h:=pr_6864797660130609714981900799081393217269435300143305409394463459185543183397656052122559640661454554977296311391480858037121987999716643812574028291115057151
 exact(show(2^521-1:Nat)=6864797660130609714981900799081393217269435300143305409394463459185543183397656052122559640661454554977296311391480858037121987999716643812574028291115057151 by decide +kernel)▸h
theorem prime_p607:Prm (2^607-1):=by
 have h:=pr_531137992816767098689588206552468627329593117727031923199444138200403559860852242739162502265229285668889329486246501015346579337652707239409519978766587351943831270835393219031728127
 exact(show(2^607-1:Nat)=531137992816767098689588206552468627329593117727031923199444138200403559860852242739162502265229285668889329486246501015346579337652707239409519978766587351943831270835393219031728127 by decide +kernel)▸h
theorem prime_25519:Prm (2^255-19):=by
 have h:=pr_57896044618658097711785492504343953926634992332820282019728792003956564819949
 exact(show(2^255-19:Nat)=57896044618658097711785492504343953926634992332820282019728792003956564819949 by decide +kernel)▸h
theorem prime_p256:Prm (2^256-2^224+2^192+2^96-1):=by
 have h:=pr_115792089210356248762697446949407573530086143415290314195533631308867097853951
 exact(show(2^256-2^224+2^192+2^96-1:Nat)=115792089210356248762697446949407573530086143415290314195533631308867097853951 by decide +kernel)▸h
theorem prime_p384:Prm (2^384-2^128-2^96+2^32-1):=by
 have h:=pr_39402006196394479212279040100143613805079739270465446667948293404245721771496870329047266088258938001861606973112319
 exact(show(2^384-2^128-2^96+2^32-1:Nat)=39402006196394479212279040100143613805079739270465446667948293404245721771496870329047266088258938001861606973112319 by decide +kernel)▸h
theorem prime_ed448:Prm (2^448-2^224-1):=by
 have h:=pr_726838724295606890549323807888004534353641360687318060281490199180612328166730772686396383698676545930088884461843637361053498018365439
 exact(show(2^448-2^224-1:Nat)=726838724295606890549323807888004534353641360687318060281490199180612328166730772686396383698676545930088884461843637361053498018365439 by decide +kernel)▸h
theorem prime_k256:Prm (2^256-2^32-977):=by
 have h:=pr_115792089237316195423570985008687907853269984665640564039457584007908834671663
 exact(show(2^256-2^32-977:Nat)=115792089237316195423570985008687907853269984665640564039457584007908834671663 by decide +kernel)▸h
theorem prime_p224:Prm (2^224-2^96+1):=by
 have h:=pr_26959946667150639794667015087019630673557916260026308143510066298881
 exact(show(2^224-2^96+1:Nat)=26959946667150639794667015087019630673557916260026308143510066298881 by decide +kernel)▸h
theorem prime_p192:Prm (2^192-2^64-1):=by
 have h:=pr_6277101735386680763835789423207666416083908700390324961279
 exact(show(2^192-2^64-1:Nat)=6277101735386680763835789423207666416083908700390324961279 by decide +kernel)▸h
theorem prime_p414:Prm (2^414-17):=by
 have h:=pr_42307582002575910332922579714097346549017899709713998034217522897561970639123926132812109468141778230245837569601494931472367
 exact(show(2^414-17:Nat)=42307582002575910332922579714097346549017899709713998034217522897561970639123926132812109468141778230245837569601494931472367 by decide +kernel)▸h
end Go.Proofs.YtfgmnbmnpihjdaaGreatDoor
namespace Go.Proofs.YtfgmnbmnpihjdaaGreatDoor
set_option exponentiation.threshold 7000000
open Go.RowKit
theorem prs_prime:∀i,i<10→Prm (nth prs i):=by
 intro i hi
 have e:∀{a b:Nat},Prm a→a=b→Prm b:=fun h h'=>h'▸h
 rcases (by omega:i=0∨i=1∨i=2∨i=3∨i=4∨i=5∨i=6∨i=7∨i=8∨i=9)with rfl|rfl|rfl|rfl|rfl|rfl|rfl|rfl|rfl|rfl
 ·exact e prime_p521 (by decide +kernel)
 ·exact e prime_p607 (by decide +kernel)
 ·exact e prime_25519 (by decide +kernel)
 ·exact e prime_p256 (by decide +kernel)
 ·exact e prime_p384 (by decide +kernel)
 ·exact e prime_ed448 (by decide +kernel)
 ·exact e prime_k256 (by decide +kernel)
 ·exact e prime_p224 (by decide +kernel)
 ·exact e prime_p192 (by decide +kernel)
 ·exact e prime_p414 (by decide +kernel)
def leastV(p q:Nat):Nat:=(p-1)*(q-1)/Nat.gcd (p-1) (q-1)
theorem prs_pairs:∀i,i<10→∀j,j<10→i≠j→nth prs i≠nth prs j∧2^(Nat.log2 (nth prs i*nth prs j)/2+40)≤leastV (nth prs i) (nth prs j) ∧
 Nat.log2 (nth prs i*nth prs j)/2<Nat.log2 (if nth prs i≤nth prs j then nth prs j-nth prs i else nth prs i-nth prs j)+90:=by decide +kernel
theorem leastV_dvd(p q:Nat):(p-1)∣leastV p q∧(q-1)∣leastV p q:=by
 unfold leastV
 constructor
 ·rw[Nat.mul_div_assoc _ (Nat.gcd_dvd_right _ _)];exact Nat.dvd_mul_right _ _
 ·rw[Nat.mul_comm,Nat.mul_div_assoc _ (Nat.gcd_dvd_left _ _)];exact Nat.dvd_mul_right _ _
theorem leastV_le(p q:Nat):leastV p q≤(p-1)*(q-1):=Nat.div_le_self _ _
theorem blen_log{n:Nat}(h:n≠0):blen n=Nat.log2 n+1:=if_neg h
theorem nth_prs{i:Nat}(h:i<10):nth prs i∈prs:=by rw[nth_eq _ _ (by rw[prs_length];exact h)];exact List.getElem_mem _
structure KeyFacts(p q e d:Nat):Prop where
 kl:KeyLaw p q e d ((q%p)^(p-1-1)%p)
 bN:blen (p*q)≤1214
 bN2:300≤blen (p*q)
 bp:blen p≤607
 bq:blen q≤607
 d0:d≠0
 law:∀c,crtM c p q d ((q%p)^(p-1-1)%p) (p*q)=c^d%(p*q)
theorem crtM_eq(c p q d qi N:Nat)(hp:0<p):crtM c p q d qi N=crtV p q N c (d%(p-1)) (d%(q-1)) qi:=by
 unfold crtM crtV
 have h1:=Nat.mod_lt ((c%p)^(d%(p-1))) hp
 have h2:=Nat.mod_lt ((c%q)^(d%(q-1))%q) hp
 generalize (c%p)^(d%(p-1))%p=x at *
 generalize (c%q)^(d%(q-1))%q=y at *
 have e:subV x (y%p) p=(x+p-y%p)%p:=by
  unfold subV
  by_cases h:y%p≤x
  ·rw[if_pos h,show x+p-y%p=(x-y%p)+p by omega,Nat.add_mod_right,Nat.mod_eq_of_lt (show x-y%p<p by omega)]
  ·rw[if_neg h,Nat.mod_eq_of_lt (show x+p-y%p<p by omega)]
 rw[e]
theorem key_facts{i j e d:Nat}(hi:i<10)(hj:j<10)(hij:i≠j)(e3:3≤e)(eo:e%2=1)(eb:e≤2147483647)(hd:d<leastV (nth prs i) (nth prs j))(hinv:e*d%leastV (nth prs i) (nth prs j)=1):KeyFacts (nth prs i) (nth prs j) e d:=by
 obtain⟨hne,hlong,hnear⟩:=prs_pairs i hi j hj hij
 have hP:=prs_prime i hi
 have hQ:=prs_prime j hj
 obtain⟨p1,p2,p3⟩:=prs_ok _ (nth_prs hi)
 obtain⟨q1,q2,q3⟩:=prs_ok _ (nth_prs hj)
 generalize nth prs i=p at *
 generalize nth prs j=q at *
 have h190:2147483648*2^159=2^190:=by decide +kernel
 have h159:1≤2^159:=Nat.one_le_two_pow
 have hbig:2147483648≤2^190:=by rw[←h190];omega
 obtain⟨T,hT⟩:∃T,T=2^190:=⟨_,rfl⟩
 rw[←hT]at p1 q1 h190 hbig
 have HT:=hide hT
 clear hT
 obtain⟨dv1,dv2⟩:=leastV_dvd p q
 have hle:=leastV_le p q
 have hpq:(p-1)*(q-1)≤p*q:=Nat.mul_le_mul (by omega) (by omega)
 have hpq2:(p-1)*(q-1)<p*q:=by
  have h1:(p-1)*(q-1)≤(p-1)*q:=Nat.mul_le_mul_left _ (by omega)
  have h2:(p-1)*q<p*q:=(Nat.mul_lt_mul_right (by omega)).2 (by omega)
  omega
 have m1:e*d%(p-1)=1:=by rw[←Nat.mod_mod_of_dvd _ dv1,hinv];exact Nat.mod_eq_of_lt (by omega)
 have m2:e*d%(q-1)=1:=by rw[←Nat.mod_mod_of_dvd _ dv2,hinv];exact Nat.mod_eq_of_lt (by omega)
 have r1:e*(d%(p-1))%(p-1)=1:=by rw[Nat.mul_mod_mod];exact m1
 have r2:e*(d%(q-1))%(q-1)=1:=by rw[Nat.mul_mod_mod];exact m2
 have n1:d%(p-1)≠0:=by intro h;rw[h,Nat.mul_zero,Nat.zero_mod]at r1;omega
 have n2:d%(q-1)≠0:=by intro h;rw[h,Nat.mul_zero,Nat.zero_mod]at r2;omega
 have hd0:d≠0:=by intro h;rw[h,Nat.zero_mod]at n1;exact n1 rfl
 have hinvp:(q%p)^(p-1-1)%p*q%p=1:=by rw[show p-1-1=p-2 by omega];exact hP.inv_pow hQ hne
 have bp:blen p≤607:=blen_le p2
 have bq:blen q≤607:=blen_le q2
 have hN0:p*q≠0:=by have:=Nat.mul_pos (show 0<p by omega) (show 0<q by omega);omega
 have bN:blen (p*q)≤1214:=by
  refine blen_le ?_
  rw[show(1214:Nat)=607+607 by rfl,Nat.pow_add]
  exact Nat.mul_lt_mul'' p2 q2
 have elarge:leastV p q+1≤e*d:=by
  have hdm:=Nat.div_add_mod (e*d) (leastV p q)
  rw[hinv]at hdm
  have h3:3*1≤e*d:=Nat.mul_le_mul e3 (by omega)
  have hk:e*d/leastV p q≠0:=by intro h;rw[h,Nat.mul_zero,Nat.zero_add]at hdm;rw[←hdm]at h3;exact absurd h3 (by decide)
  have:leastV p q*1≤leastV p q*(e*d/leastV p q):=Nat.mul_le_mul_left _ (Nat.pos_of_ne_zero hk)
  omega
 have dlarge:2^(Nat.log2 (p*q)/2+9)≤d:=by
  apply Classical.byContradiction
  intro h
  have h1:e*d≤2^31*2^(Nat.log2 (p*q)/2+9):=Nat.mul_le_mul (by omega) (by omega)
  rw[←Nat.pow_add,show 31+(Nat.log2 (p*q)/2+9)=Nat.log2 (p*q)/2+40 by omega]at h1
  omega
 have bd:Nat.log2 (p*q)/2+9<blen d:=by
  have h1:=lt_two_blen d
  exact(Nat.pow_lt_pow_iff_right (by omega)).1 (Nat.lt_of_le_of_lt dlarge h1)
 have bN2:300≤blen (p*q):=by
  apply Classical.byContradiction
  intro h
  have h1:=lt_two_blen (p*q)
  have h2:2^blen (p*q)≤2^300:=Nat.pow_le_pow_right (by omega) (by omega)
  have h3:T*T≤p*q:=Nat.mul_le_mul (by omega) (by omega)
  rw[HT.out]at h3
  have h4:2^300<2^190*2^190:=by decide +kernel
  exact absurd (Nat.lt_of_lt_of_le (Nat.lt_of_lt_of_le h1 h2) (Nat.le_of_lt (Nat.lt_of_lt_of_le h4 h3))) (Nat.lt_irrefl _)
 refine⟨⟨by omega,by omega,p3,q3,?_,?_,by omega,by omega,eo,eb,by omega,by omega,by omega,r1,r2,⟨Nat.mod_lt _ (by omega),?_⟩,?_,?_,hne⟩,bN,bN2,bp,bq,hd0,fun c=>?_⟩
 ·unfold wlen;omega
 ·unfold wlen;omega
 ·rw[Nat.mod_mul_mod,Nat.mul_comm];exact hinvp
 ·rw[blen_log hN0,blen_log (by split<;>omega)]
  omega
 ·rw[blen_log hN0];omega
 ·rw[crtM_eq _ _ _ _ _ _ (by omega)]
  exact crtV_eq hP hQ hne n1 n2 hinvp
end Go.Proofs.YtfgmnbmnpihjdaaGreatDoor
namespace Go.Proofs.YtfgmnbmnpihjdaaGreatDoor
open Go.RowKit
theorem inv_law{p q:Int}{e m d:Nat}(h:p*e+q*m=1)(hd:(d:Int)=p%(m:Int)):e*d%m=1%m:=by
 have h1:((e*d:Nat):Int)%(m:Int)=1%(m:Int):=by
  rw[Int.natCast_mul,hd,Int.mul_emod,Int.emod_emod,←Int.mul_emod]
  have:(e:Int)*p=1+(m:Int)*(-q):=by rw[Int.mul_comm];have:=h;grind
  rw[this,Int.add_mul_emod_self_left]
 have h2:((e*d%m:Nat):Int)=((1%m:Nat):Int):=by rw[Int.natCast_emod,h1,Int.natCast_emod];rfl
 exact Int.ofNat.inj h2
set_option maxRecDepth 100000 in
theorem c_Inverse(va vm:Value)(ev m:Nat)(w:World)(ha:IntIs w va (ev:Int))(hm:NatV w vm m)(e0:0<ev)(em:ev<m)(lm:m+m+2<lim) :
 Calls Tryz.prog 37 #[va,vm] w fun e w'=>∃vd d,e=.returned (.tuple #[vd,.bool (decide (Nat.gcd ev m=1))])∧Mod [] w w'∧NatV w' vd d∧d<m∧(Nat.gcd ev m=1→ev*d%m=1%m):=by
 obtain⟨R,hR⟩:∃R,R=decide (Nat.gcd ev m=1):=⟨_,rfl⟩
 rw[←hR]
 have HR:=hide hR
 clear hR
 obtain⟨ba,aa,na,ca,rfl⟩:=ha.lit
 obtain⟨M,sM,cM,eM⟩:=hm
 have hA:=Blk.new w 80 [.bool ba,.slice aa na ca]
 have m0:Mod [] w (w.alloc (.cells #[.bool ba,.slice aa na ca] 80)):=(Mod.refl [] w).alloc _
 obtain⟨f0,f1,f2,f3⟩:=int_cells hA
 have C1:=hide (fun w' (mm:Mod [] w w')=>c_Below _ vm (ev:Int) M w' (ha.mod mm) (sM.mod mm (by simp)) cM (by simp;omega) (by omega) (by omega))
 have C2:=hide (fun w' v L (h:SliceK i64 w' v L) (c:Canon L)=>c_Make false v L w' h c)
 have C3:=hide (fun w' (mm:Mod [] w w')=>c_Make false vm M w' (sM.mod mm (by simp)) cM)
 have C4:=hide (fun w' va vb (h1:IntIs w' va ((ev:Nat):Int)) (h2:IntIs w' vb ((m:Nat):Int))=>c_Bezout va vb ev m w' h1 h2 e0 (by omega) (by omega))
 have C5:=hide (fun w' (mm:Mod [] w w') v (p:Int) (h:IntIs w' v p) (hp:p.natAbs≤m+1)=>c_Below v vm p M w' h (sM.mod mm (by simp)) cM (by omega) (by omega) (by omega))
 have HM:=hide eM
 have hem:Hid (((ev:Int)%((m:Nat):Int))=(ev:Int)):=hide (Int.emod_eq_of_lt (by omega) (by omega))
 have HLM:=hide lm
 have HEM:=hide em
 have HE0:=hide e0
 have HMS:=hide sM
 clear ha sM eM e0 em lm
 go_enter Tryz.func37,Tryz.ntmps37
 go_wp2_with fail
 refine(C1.out _ m0).mono ?_
 rintro e w1 ⟨v1,L1,rfl,m1,s1,c1,e1⟩
 rw[HM.out,hem.out]at e1
 have E1:=hide (show valS L1=ev by omega)
 have m01:=m0.then m1
 clear e1 m0 m1 f0 f1 f2 f3 hA
 go_wp2_with fail
 refine(C2.out _ v1 L1 s1 c1).mono ?_
 rintro e w2 ⟨v2,rfl,m2,i2⟩
 rw[if_neg (by simp),E1.out]at i2
 have m02:=m01.then m2
 go_wp2_with fail
 refine(C3.out _ m02).mono ?_
 rintro e w3 ⟨v3,rfl,m3,i3⟩
 rw[if_neg (by simp),HM.out]at i3
 have m03:=m02.then m3
 go_wp2_with fail
 refine(C4.out _ v2 v3 (i2.mod m3) i3).mono ?_
 rintro e w4 ⟨vg,vp,vq,G,p,q,rfl,m4,sG,cG,eG,ip,iq_,hpq,hp⟩
 have m04:=m03.then m4
 obtain⟨b4,a4,n4,c4,rfl⟩:=ip.lit
 obtain⟨b5,a5,n5,c5,rfl⟩:=iq_.lit
 have EG:=hide eG
 have HPQ:=hide hpq
 have HP:=hide hp
 clear eG hpq hp s1 c1 i2 i3 m01 m02 m03 m2 m3 m4
 have hN:=int_new2 ip iq_
 have nz1:IntBox (w4.alloc (.cells #[.bool b4,.slice a4 n4 c4] 80)) w4.heap.size p:=intBox_new2 rfl ip
 have B1:=(Blk.new w4 80 [.bool b4,.slice a4 n4 c4]).alloc (.cells #[.bool b5,.slice a5 n5 c5] 80)
 obtain⟨g0,g1,g2,g3⟩:=int_cells B1
 have m5:Mod [] w ((w4.alloc (.cells #[.bool b4,.slice a4 n4 c4] 80)).alloc (.cells #[.bool b5,.slice a5 n5 c5] 80)):=(m04.alloc _).alloc _
 clear hN nz1
 go_wp2_with fail
 refine(C5.out _ m5 _ p (ip.mod (((Mod.refl [] _).alloc _).alloc _)) HP.out).mono ?_
 rintro e w6 ⟨v6,L6,rfl,m6,s6,c6,e6⟩
 have E6:=hide e6
 have m06:=m5.then m6
 clear e6 g0 g1 g2 g3 B1
 go_wp2_with fail
 refine(c_Small 1 (by decide) _).mono ?_
 rintro e w7 ⟨v7,L7,rfl,m7,o7,c7,e7⟩
 have E7:=hide e7
 have m07:=m06.then m7
 clear e7
 have sG7:=((sG.mod (((Mod.refl [] _).alloc _).alloc _) (by simp)).mod m6 (by simp)).mod m7 (by simp)
 have CC:=hide (c_Cmp vg v7 G L7 w7 sG7 o7.slice cG c7 (Nat.le_trans (cG.lim (by rw[EG.out];have h1:=HLM.out;have h2:=HEM.out;have h3:=Nat.gcd_le_left m HE0.out;omega)) (by omega)))
 go_wp2_with fail
 refine CC.out.mono ?_
 rintro e w8 ⟨rfl,m8⟩
 have m08:=m07.then m8
 rw[EG.out,E7.out]
 have hfin:NatV w8 v6 (valS L6):=⟨L6,(s6.mod m7 (by simp)).mod m8 (by simp),c6,rfl⟩
 have hlt:valS L6<m:=by have h1:=E6.out;rw[HM.out]at h1;have h2:=Int.emod_lt_of_pos p (show(0:Int)<(m:Int)by have:=HEM.out;omega);omega
 have hlaw:Hid (Nat.gcd ev m=1→ev*valS L6%m=1%m):=hide fun h=>inv_law (p:=p) (q:=q) (by rw[HPQ.out,h];rfl) (by rw[E6.out,HM.out])
 have HF:=hide hfin
 have HLT:=hide hlt
 by_cases hg:Nat.gcd ev m=1
 ·have hc:cmpV (Nat.gcd ev m) 1=0:=by rw[hg];rfl
  rw[hc]
  obtain rfl:R=true:=HR.out.trans (decide_eq_true hg)
  clear hc hg hfin hlt
  go_wp2_with fail
  go_ret2
  exact⟨v6,_,rfl,m08,HF.out,HLT.out,hlaw.out⟩
 ·have hc:(cmpV (Nat.gcd ev m) 1 == 0)=false:=by
   rw[beq_eq_false_iff_ne];unfold cmpV
   by_cases h1:Nat.gcd ev m<1
   ·rw[if_pos h1];decide
   ·rw[if_neg h1,if_pos (by omega)];decide
  obtain rfl:R=false:=HR.out.trans (decide_eq_false hg)
  obtain⟨cv,hcv⟩:∃cv,cv=cmpV (Nat.gcd ev m) 1:=⟨_,rfl⟩
  rw[←hcv]at hc ⊢
  clear hg hfin hlt hcv
  go_wp2_with fail
  go_ret2
  exact⟨v6,_,rfl,m08,HF.out,HLT.out,hlaw.out⟩
end Go.Proofs.YtfgmnbmnpihjdaaGreatDoor
namespace Go.Proofs.YtfgmnbmnpihjdaaGreatDoor
set_option exponentiation.threshold 7000000
open Go.RowKit
theorem NatV.lim4000{a:Nat}(h:blen a≤4000):a<lim:=by
 have h1:=lt_two_blen a
 have h2:2^blen a≤2^(16*20000):=Nat.pow_le_pow_right (by omega) (by omega)
 rw[Nat.pow_mul]at h2
 rw[lim_eq]
 exact Nat.lt_of_lt_of_le h1 h2
set_option maxRecDepth 100000 in
theorem c_plain(va:Value)(a:Nat)(w:World)(ha:NatV w va a)(la:blen a≤4000):Calls Tryz.prog 15 #[va] w fun e w'=>∃v B,e=.returned v∧Mod [] w w'∧ByV w' v B∧B.length=(blen a+7)/8∧bval B=a:=by
 have C1:=hide (n_Length va a w ha (NatV.lim4000 la))
 have C2:=hide (fun w' (m:Mod [] w w')=>n_Bytes va a ((blen a+7)/8) w' (ha.mod m) (by omega) (lt_size_self a))
 obtain⟨L,hL⟩:∃L,L=(blen a+7)/8:=⟨_,rfl⟩
 rw[←hL]at C1 C2 ⊢
 clear hL la ha
 go_enter Tryz.func15,Tryz.ntmps15
 go_wp2_with fail
 refine C1.out.mono ?_
 rintro e w1 ⟨rfl,m1⟩
 go_wp2_with fail
 refine(C2.out _ m1).mono ?_
 rintro e w2 ⟨v,B,rfl,m2,h⟩
 have m12:=m1.then m2
 have H:=hide h
 clear h
 go_wp2_with fail
 go_ret
 exact⟨v,B,rfl,m12,H.out⟩
end Go.Proofs.YtfgmnbmnpihjdaaGreatDoor
