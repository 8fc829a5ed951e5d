/- The ten primes of the reference are prime: certificates, printed by certs.py. The Chinese remainder's way of decrypting: plain law. -/
import Derived.Test.YtkhopfobjijnlaaGreatDoorM32
set_option linter.all false
namespace Go.Proofs.YtkhopfobjijnlaaGreatDoor
set_option maxRecDepth 100000

theorem pr_17 : Prm 17 := small_prime 5 (by decide) (by decide) (by decide +kernel)
theorem pr_31 : Prm 31 := small_prime 6 (by decide) (by decide) (by decide +kernel)
theorem pr_41 : Prm 41 := small_prime 7 (by decide) (by decide) (by decide +kernel)
theorem pr_53 : Prm 53 := small_prime 8 (by decide) (by decide) (by decide +kernel)
theorem pr_131 : Prm 131 := small_prime 12 (by decide) (by decide) (by decide +kernel)
theorem pr_157 : Prm 157 := small_prime 13 (by decide) (by decide) (by decide +kernel)
theorem pr_521 : Prm 521 := small_prime 23 (by decide) (by decide) (by decide +kernel)
theorem pr_1613 : Prm 1613 := small_prime 41 (by decide) (by decide) (by decide +kernel)
theorem pr_2731 : Prm 2731 := small_prime 53 (by decide) (by decide) (by decide +kernel)
theorem pr_8191 : Prm 8191 := small_prime 91 (by decide) (by decide) (by decide +kernel)
theorem pr_42641 : Prm 42641 := small_prime 207 (by decide) (by decide) (by decide +kernel)
theorem pr_51481 : Prm 51481 := small_prime 227 (by decide) (by decide) (by decide +kernel)
theorem pr_61681 : Prm 61681 := small_prime 249 (by decide) (by decide) (by decide +kernel)
theorem pr_1051 : Prm 1051 := small_prime 33 (by decide) (by decide) (by decide +kernel)
theorem pr_409891 : Prm 409891 := pock [(1051, 1, 3)] (by decide +kernel) ⟨pr_1051, trivial⟩
theorem pr_2 : Prm 2 := small_prime 2 (by decide) (by decide) (by decide +kernel)
theorem pr_5 : Prm 5 := small_prime 3 (by decide) (by decide) (by decide +kernel)
theorem pr_858001 : Prm 858001 := pock [(2, 4, 17), (5, 3, 3)] (by decide +kernel) ⟨pr_2, pr_5, trivial⟩
theorem pr_13 : Prm 13 := small_prime 4 (by decide) (by decide) (by decide +kernel)
theorem pr_5746001 : Prm 5746001 := pock [(5, 3, 5), (13, 2, 3)] (by decide +kernel) ⟨pr_5, pr_13, trivial⟩
theorem pr_37 : Prm 37 := small_prime 7 (by decide) (by decide) (by decide +kernel)
theorem pr_7623851 : Prm 7623851 := pock [(5, 2, 3), (13, 1, 2), (37, 1, 3)] (by decide +kernel) ⟨pr_5, pr_13, pr_37, trivial⟩
theorem pr_19 : Prm 19 := small_prime 5 (by decide) (by decide) (by decide +kernel)
theorem pr_34110701 : Prm 34110701 := pock [(5, 2, 5), (13, 1, 2), (19, 1, 3)] (by decide +kernel) ⟨pr_5, pr_13, pr_19, trivial⟩
theorem pr_49481 : Prm 49481 := small_prime 223 (by decide) (by decide) (by decide +kernel)
theorem pr_308761441 : Prm 308761441 := pock [(49481, 1, 3)] (by decide +kernel) ⟨pr_49481, trivial⟩
theorem pr_6864797660130609714981900799081393217269435300143305409394463459185543183397656052122559640661454554977296311391480858037121987999716643812574028291115057151 : Prm 6864797660130609714981900799081393217269435300143305409394463459185543183397656052122559640661454554977296311391480858037121987999716643812574028291115057151 := pock [(17, 1, 3), (31, 1, 3), (41, 1, 3), (53, 1, 3), (131, 1, 3), (157, 1, 3), (521, 1, 2), (1613, 1, 3), (2731, 1, 3), (8191, 1, 3), (42641, 1, 3), (51481, 1, 3), (61681, 1, 3), (409891, 1, 3), (858001, 1, 3), (5746001, 1, 3), (7623851, 1, 3), (34110701, 1, 3), (308761441, 1, 3)] (by decide +kernel) ⟨pr_17, pr_31, pr_41, pr_53, pr_131, pr_157, pr_521, pr_1613, pr_2731, pr_8191, pr_42641, pr_51481, pr_61681, pr_409891, pr_858001, pr_5746001, pr_7623851, pr_34110701, pr_308761441, trivial⟩
theorem pr_3 : Prm 3 := small_prime 2 (by decide) (by decide) (by decide +kernel)
theorem pr_101 : Prm 101 := small_prime 11 (by decide) (by decide) (by decide +kernel)
theorem pr_79241 : Prm 79241 := small_prime 282 (by decide) (by decide) (by decide +kernel)
theorem pr_341117531003194129 : Prm 341117531003194129 := pock [(2, 4, 11), (3, 2, 3), (101, 1, 2), (79241, 1, 3)] (by decide +kernel) ⟨pr_2, pr_3, pr_101, pr_79241, trivial⟩
theorem pr_251 : Prm 251 := small_prime 16 (by decide) (by decide) (by decide +kernel)
theorem pr_601 : Prm 601 := small_prime 25 (by decide) (by decide) (by decide +kernel)
theorem pr_1801 : Prm 1801 := small_prime 43 (by decide) (by decide) (by decide +kernel)
theorem pr_845100400152152934331135470251 : Prm 845100400152152934331135470251 := pock [(5, 3, 3), (31, 1, 3), (41, 1, 3), (101, 1, 2), (251, 1, 3), (601, 1, 3), (1801, 1, 3)] (by decide +kernel) ⟨pr_5, pr_31, pr_41, pr_101, pr_251, pr_601, pr_1801, trivial⟩
theorem pr_107 : Prm 107 := small_prime 11 (by decide) (by decide) (by decide +kernel)
theorem pr_137 : Prm 137 := small_prime 12 (by decide) (by decide) (by decide +kernel)
theorem pr_181 : Prm 181 := small_prime 14 (by decide) (by decide) (by decide +kernel)
theorem pr_50530807 : Prm 50530807 := pock [(3, 2, 3), (31, 1, 2), (137, 1, 2)] (by decide +kernel) ⟨pr_3, pr_31, pr_137, trivial⟩
theorem pr_66397480399 : Prm 66397480399 := pock [(50530807, 1, 2)] (by decide +kernel) ⟨pr_50530807, trivial⟩
theorem pr_394648008200183351537110552328867 : Prm 394648008200183351537110552328867 := pock [(107, 1, 2), (137, 1, 2), (181, 1, 2), (66397480399, 1, 2)] (by decide +kernel) ⟨pr_107, pr_137, pr_181, pr_66397480399, trivial⟩
theorem pr_19112684214957755703306290219340140859813072336321619 : Prm 19112684214957755703306290219340140859813072336321619 := pock [(394648008200183351537110552328867, 1, 3)] (by decide +kernel) ⟨pr_394648008200183351537110552328867, trivial⟩
theorem pr_531137992816767098689588206552468627329593117727031923199444138200403559860852242739162502265229285668889329486246501015346579337652707239409519978766587351943831270835393219031728127 : Prm 531137992816767098689588206552468627329593117727031923199444138200403559860852242739162502265229285668889329486246501015346579337652707239409519978766587351943831270835393219031728127 := pock [(341117531003194129, 1, 3), (845100400152152934331135470251, 1, 3), (19112684214957755703306290219340140859813072336321619, 1, 3)] (by decide +kernel) ⟨pr_341117531003194129, pr_845100400152152934331135470251, pr_19112684214957755703306290219340140859813072336321619, trivial⟩
theorem pr_353 : Prm 353 := small_prime 19 (by decide) (by decide) (by decide +kernel)
theorem pr_57467 : Prm 57467 := small_prime 240 (by decide) (by decide) (by decide +kernel)
theorem pr_132049 : Prm 132049 := small_prime 364 (by decide) (by decide) (by decide +kernel)
theorem pr_3727 : Prm 3727 := small_prime 62 (by decide) (by decide) (by decide +kernel)
theorem pr_1923133 : Prm 1923133 := pock [(3727, 1, 2)] (by decide +kernel) ⟨pr_3727, trivial⟩
theorem pr_223 : Prm 223 := small_prime 15 (by decide) (by decide) (by decide +kernel)
theorem pr_4153 : Prm 4153 := small_prime 65 (by decide) (by decide) (by decide +kernel)
theorem pr_31757755568855353 : Prm 31757755568855353 := pock [(31, 1, 2), (107, 1, 2), (223, 1, 2), (4153, 1, 2)] (by decide +kernel) ⟨pr_31, pr_107, pr_223, pr_4153, trivial⟩
theorem pr_74058212732561358302231226437062788676166966415465897661863160754340907 : Prm 74058212732561358302231226437062788676166966415465897661863160754340907 := pock [(3, 1, 2), (353, 1, 2), (57467, 1, 2), (132049, 1, 2), (1923133, 1, 2), (31757755568855353, 1, 2)] (by decide +kernel) ⟨pr_3, pr_353, pr_57467, pr_132049, pr_1923133, pr_31757755568855353, trivial⟩
theorem pr_57896044618658097711785492504343953926634992332820282019728792003956564819949 : Prm 57896044618658097711785492504343953926634992332820282019728792003956564819949 := pock [(74058212732561358302231226437062788676166966415465897661863160754340907, 1, 2)] (by decide +kernel) ⟨pr_74058212732561358302231226437062788676166966415465897661863160754340907, trivial⟩
theorem pr_11 : Prm 11 := small_prime 4 (by decide) (by decide) (by decide +kernel)
theorem pr_23 : Prm 23 := small_prime 5 (by decide) (by decide) (by decide +kernel)
theorem pr_204061199 : Prm 204061199 := pock [(11, 1, 3), (23, 1, 2), (107, 1, 2)] (by decide +kernel) ⟨pr_11, pr_23, pr_107, trivial⟩
theorem pr_34282281433 : Prm 34282281433 := pock [(204061199, 1, 2)] (by decide +kernel) ⟨pr_204061199, trivial⟩
theorem pr_18169 : Prm 18169 := small_prime 135 (by decide) (by decide) (by decide +kernel)
theorem pr_78283 : Prm 78283 := small_prime 280 (by decide) (by decide) (by decide +kernel)
theorem pr_46076956964474543 : Prm 46076956964474543 := pock [(18169, 1, 2), (78283, 1, 2)] (by decide +kernel) ⟨pr_18169, pr_78283, trivial⟩
theorem pr_774023187263532362759620327192479577272145303 : Prm 774023187263532362759620327192479577272145303 := pock [(34282281433, 1, 2), (46076956964474543, 1, 2)] (by decide +kernel) ⟨pr_34282281433, pr_46076956964474543, trivial⟩
theorem pr_835945042244614951780389953367877943453916927241 : Prm 835945042244614951780389953367877943453916927241 := pock [(774023187263532362759620327192479577272145303, 1, 2)] (by decide +kernel) ⟨pr_774023187263532362759620327192479577272145303, trivial⟩
theorem pr_115792089210356248762697446949407573530086143415290314195533631308867097853951 : Prm 115792089210356248762697446949407573530086143415290314195533631308867097853951 := pock [(835945042244614951780389953367877943453916927241, 1, 2)] (by decide +kernel) ⟨pr_835945042244614951780389953367877943453916927241, trivial⟩
theorem pr_8389 : Prm 8389 := small_prime 92 (by decide) (by decide) (by decide +kernel)
theorem pr_38557 : Prm 38557 := small_prime 197 (by decide) (by decide) (by decide +kernel)
theorem pr_3253 : Prm 3253 := small_prime 58 (by decide) (by decide) (by decide +kernel)
theorem pr_312289 : Prm 312289 := pock [(3253, 1, 2)] (by decide +kernel) ⟨pr_3253, trivial⟩
theorem pr_59 : Prm 59 := small_prime 8 (by decide) (by decide) (by decide +kernel)
theorem pr_599 : Prm 599 := small_prime 25 (by decide) (by decide) (by decide +kernel)
theorem pr_513928823 : Prm 513928823 := pock [(59, 1, 2), (599, 1, 2)] (by decide +kernel) ⟨pr_59, pr_599, trivial⟩
theorem pr_53448597593 : Prm 53448597593 := pock [(513928823, 1, 2)] (by decide +kernel) ⟨pr_513928823, trivial⟩
theorem pr_1357291859799823621 : Prm 1357291859799823621 := pock [(53448597593, 1, 2)] (by decide +kernel) ⟨pr_53448597593, trivial⟩
theorem pr_7 : Prm 7 := small_prime 3 (by decide) (by decide) (by decide +kernel)
theorem pr_211 : Prm 211 := small_prime 15 (by decide) (by decide) (by decide +kernel)
theorem pr_105957871 : Prm 105957871 := pock [(5, 1, 2), (19, 1, 2), (211, 1, 2)] (by decide +kernel) ⟨pr_5, pr_19, pr_211, trivial⟩
theorem pr_529709925838459440593 : Prm 529709925838459440593 := pock [(7, 1, 2), (181, 1, 2), (105957871, 1, 2)] (by decide +kernel) ⟨pr_7, pr_181, pr_105957871, trivial⟩
theorem pr_19173790298027098165721053155794528970226934547887232785722672956982046098136719667167519737147526097 : Prm 19173790298027098165721053155794528970226934547887232785722672956982046098136719667167519737147526097 := pock [(8389, 1, 2), (38557, 1, 2), (312289, 1, 2), (1357291859799823621, 1, 2), (529709925838459440593, 1, 2)] (by decide +kernel) ⟨pr_8389, pr_38557, pr_312289, pr_1357291859799823621, pr_529709925838459440593, trivial⟩
theorem pr_39402006196394479212279040100143613805079739270465446667948293404245721771496870329047266088258938001861606973112319 : Prm 39402006196394479212279040100143613805079739270465446667948293404245721771496870329047266088258938001861606973112319 := pock [(19173790298027098165721053155794528970226934547887232785722672956982046098136719667167519737147526097, 1, 2)] (by decide +kernel) ⟨pr_19173790298027098165721053155794528970226934547887232785722672956982046098136719667167519737147526097, trivial⟩
theorem pr_29 : Prm 29 := small_prime 6 (by decide) (by decide) (by decide +kernel)
theorem pr_411743 : Prm 411743 := pock [(29, 1, 2), (31, 1, 2)] (by decide +kernel) ⟨pr_29, pr_31, trivial⟩
theorem pr_1469495262398780123809 : Prm 1469495262398780123809 := pock [(2, 5, 17), (7, 2, 3), (223, 1, 2), (411743, 1, 3)] (by decide +kernel) ⟨pr_2, pr_7, pr_223, pr_411743, trivial⟩
theorem pr_67 : Prm 67 := small_prime 9 (by decide) (by decide) (by decide +kernel)
theorem pr_197 : Prm 197 := small_prime 15 (by decide) (by decide) (by decide +kernel)
theorem pr_271 : Prm 271 := small_prime 17 (by decide) (by decide) (by decide +kernel)
theorem pr_97859369123353 : Prm 97859369123353 := pock [(3, 2, 2), (67, 1, 2), (197, 1, 2), (271, 1, 2)] (by decide +kernel) ⟨pr_3, pr_67, pr_197, pr_271, trivial⟩
theorem pr_167773885276849215533569 : Prm 167773885276849215533569 := pock [(97859369123353, 1, 3)] (by decide +kernel) ⟨pr_97859369123353, trivial⟩
theorem pr_217003 : Prm 217003 := small_prime 466 (by decide) (by decide) (by decide +kernel)
theorem pr_1764234391 : Prm 1764234391 := pock [(217003, 1, 2)] (by decide +kernel) ⟨pr_217003, trivial⟩
theorem pr_34741861125639557 : Prm 34741861125639557 := pock [(1764234391, 1, 2)] (by decide +kernel) ⟨pr_1764234391, trivial⟩
theorem pr_36131535570665139281 : Prm 36131535570665139281 := pock [(34741861125639557, 1, 2)] (by decide +kernel) ⟨pr_34741861125639557, trivial⟩
theorem pr_596242599987116128415063 : Prm 596242599987116128415063 := pock [(36131535570665139281, 1, 3)] (by decide +kernel) ⟨pr_36131535570665139281, trivial⟩
theorem pr_726838724295606890549323807888004534353641360687318060281490199180612328166730772686396383698676545930088884461843637361053498018365439 : Prm 726838724295606890549323807888004534353641360687318060281490199180612328166730772686396383698676545930088884461843637361053498018365439 := pock [(1469495262398780123809, 1, 2), (167773885276849215533569, 1, 2), (596242599987116128415063, 1, 2)] (by decide +kernel) ⟨pr_1469495262398780123809, pr_167773885276849215533569, pr_596242599987116128415063, trivial⟩
theorem pr_1627 : Prm 1627 := small_prime 41 (by decide) (by decide) (by decide +kernel)
theorem pr_2657 : Prm 2657 := small_prime 52 (by decide) (by decide) (by decide +kernel)
theorem pr_4423 : Prm 4423 := small_prime 67 (by decide) (by decide) (by decide +kernel)
theorem pr_41201 : Prm 41201 := small_prime 203 (by decide) (by decide) (by decide +kernel)
theorem pr_96557 : Prm 96557 := small_prime 311 (by decide) (by decide) (by decide +kernel)
theorem pr_255515944373312847190720520512484175977 : Prm 255515944373312847190720520512484175977 := pock [(1627, 1, 2), (2657, 1, 2), (4423, 1, 2), (41201, 1, 2), (96557, 1, 2)] (by decide +kernel) ⟨pr_1627, pr_2657, pr_4423, pr_41201, pr_96557, trivial⟩
theorem pr_205115282021455665897114700593932402728804164701536103180137503955397371 : Prm 205115282021455665897114700593932402728804164701536103180137503955397371 := pock [(255515944373312847190720520512484175977, 1, 2)] (by decide +kernel) ⟨pr_255515944373312847190720520512484175977, trivial⟩
theorem pr_115792089237316195423570985008687907853269984665640564039457584007908834671663 : Prm 115792089237316195423570985008687907853269984665640564039457584007908834671663 := pock [(205115282021455665897114700593932402728804164701536103180137503955397371, 1, 2)] (by decide +kernel) ⟨pr_205115282021455665897114700593932402728804164701536103180137503955397371, trivial⟩
theorem pr_257 : Prm 257 := small_prime 17 (by decide) (by decide) (by decide +kernel)
theorem pr_641 : Prm 641 := small_prime 26 (by decide) (by decide) (by decide +kernel)
theorem pr_26959946667150639794667015087019630673557916260026308143510066298881 : Prm 26959946667150639794667015087019630673557916260026308143510066298881 := pock [(2, 96, 11), (257, 1, 2), (641, 1, 2)] (by decide +kernel) ⟨pr_2, pr_257, pr_641, trivial⟩
theorem pr_43 : Prm 43 := small_prime 7 (by decide) (by decide) (by decide +kernel)
theorem pr_2477 : Prm 2477 := small_prime 50 (by decide) (by decide) (by decide +kernel)
theorem pr_54251 : Prm 54251 := small_prime 233 (by decide) (by decide) (by decide +kernel)
theorem pr_108341181769254293 : Prm 108341181769254293 := pock [(43, 1, 2), (2477, 1, 2), (54251, 1, 2)] (by decide +kernel) ⟨pr_43, pr_2477, pr_54251, trivial⟩
theorem pr_8413201 : Prm 8413201 := pock [(2, 4, 7), (3, 3, 5), (5, 2, 3)] (by decide +kernel) ⟨pr_2, pr_3, pr_5, trivial⟩
theorem pr_252396031 : Prm 252396031 := pock [(8413201, 1, 2)] (by decide +kernel) ⟨pr_8413201, trivial⟩
theorem pr_455827231987 : Prm 455827231987 := pock [(252396031, 1, 2)] (by decide +kernel) ⟨pr_252396031, trivial⟩
theorem pr_5933177618131140283 : Prm 5933177618131140283 := pock [(455827231987, 1, 2)] (by decide +kernel) ⟨pr_455827231987, trivial⟩
theorem pr_288626509448065367648032903 : Prm 288626509448065367648032903 := pock [(5933177618131140283, 1, 2)] (by decide +kernel) ⟨pr_5933177618131140283, trivial⟩
theorem pr_6277101735386680763835789423207666416083908700390324961279 : Prm 6277101735386680763835789423207666416083908700390324961279 := pock [(108341181769254293, 1, 2), (288626509448065367648032903, 1, 2)] (by decide +kernel) ⟨pr_108341181769254293, pr_288626509448065367648032903, trivial⟩
theorem pr_208147 : Prm 208147 := small_prime 457 (by decide) (by decide) (by decide +kernel)
theorem pr_30406113761 : Prm 30406113761 := pock [(208147, 1, 2)] (by decide +kernel) ⟨pr_208147, trivial⟩
theorem pr_19505309445451 : Prm 19505309445451 := pock [(3, 5, 3), (5, 2, 2), (17, 1, 2), (131, 1, 2)] (by decide +kernel) ⟨pr_3, pr_5, pr_17, pr_131, trivial⟩
theorem pr_214824846426985860661 : Prm 214824846426985860661 := pock [(19505309445451, 1, 2)] (by decide +kernel) ⟨pr_19505309445451, trivial⟩
theorem pr_6015095699955604098509 : Prm 6015095699955604098509 := pock [(214824846426985860661, 1, 2)] (by decide +kernel) ⟨pr_214824846426985860661, trivial⟩
theorem pr_2249645791783395932842367 : Prm 2249645791783395932842367 := pock [(6015095699955604098509, 1, 2)] (by decide +kernel) ⟨pr_6015095699955604098509, trivial⟩
theorem pr_68521 : Prm 68521 := small_prime 262 (by decide) (by decide) (by decide +kernel)
theorem pr_904340159 : Prm 904340159 := pock [(68521, 1, 2)] (by decide +kernel) ⟨pr_68521, trivial⟩
theorem pr_39286345187279 : Prm 39286345187279 := pock [(904340159, 1, 2)] (by decide +kernel) ⟨pr_904340159, trivial⟩
theorem pr_2928325597569402103 : Prm 2928325597569402103 := pock [(39286345187279, 1, 2)] (by decide +kernel) ⟨pr_39286345187279, trivial⟩
theorem pr_9632869229268961407429404857 : Prm 9632869229268961407429404857 := pock [(2928325597569402103, 1, 2)] (by decide +kernel) ⟨pr_2928325597569402103, trivial⟩
theorem pr_42307582002575910332922579714097346549017899709713998034217522897561970639123926132812109468141778230245837569601494931472367 : Prm 42307582002575910332922579714097346549017899709713998034217522897561970639123926132812109468141778230245837569601494931472367 := pock [(30406113761, 1, 2), (2249645791783395932842367, 1, 2), (9632869229268961407429404857, 1, 2)] (by decide +kernel) ⟨pr_30406113761, pr_2249645791783395932842367, pr_9632869229268961407429404857, trivial⟩
theorem prime_p521 : Prm (2 ^ 521 - 1) := by
  have h := pr_6864797660130609714981900799081393217269435300143305409394463459185543183397656052122559640661454554977296311391480858037121987999716643812574028291115057151
  exact (show (2 ^ 521 - 1 : Nat) = 6864797660130609714981900799081393217269435300143305409394463459185543183397656052122559640661454554977296311391480858037121987999716643812574028291115057151 by decide +kernel) ▸ h
theorem prime_p607 : Prm (2 ^ 607 - 1) := by
  have h := pr_531137992816767098689588206552468627329593117727031923199444138200403559860852242739162502265229285668889329486246501015346579337652707239409519978766587351943831270835393219031728127
  exact (show (2 ^ 607 - 1 : Nat) = 531137992816767098689588206552468627329593117727031923199444138200403559860852242739162502265229285668889329486246501015346579337652707239409519978766587351943831270835393219031728127 by decide +kernel) ▸ h
theorem prime_25519 : Prm (2 ^ 255 - 19) := by
  have h := pr_57896044618658097711785492504343953926634992332820282019728792003956564819949
  exact (show (2 ^ 255 - 19 : Nat) = 57896044618658097711785492504343953926634992332820282019728792003956564819949 by decide +kernel) ▸ h
theorem prime_p256 : Prm (2 ^ 256 - 2 ^ 224 + 2 ^ 192 + 2 ^ 96 - 1) := by
  have h := pr_115792089210356248762697446949407573530086143415290314195533631308867097853951
  exact (show (2 ^ 256 - 2 ^ 224 + 2 ^ 192 + 2 ^ 96 - 1 : Nat) = 115792089210356248762697446949407573530086143415290314195533631308867097853951 by decide +kernel) ▸ h
theorem prime_p384 : Prm (2 ^ 384 - 2 ^ 128 - 2 ^ 96 + 2 ^ 32 - 1) := by
  have h := pr_39402006196394479212279040100143613805079739270465446667948293404245721771496870329047266088258938001861606973112319
  exact (show (2 ^ 384 - 2 ^ 128 - 2 ^ 96 + 2 ^ 32 - 1 : Nat) = 39402006196394479212279040100143613805079739270465446667948293404245721771496870329047266088258938001861606973112319 by decide +kernel) ▸ h
theorem prime_ed448 : Prm (2 ^ 448 - 2 ^ 224 - 1) := by
  have h := pr_726838724295606890549323807888004534353641360687318060281490199180612328166730772686396383698676545930088884461843637361053498018365439
  exact (show (2 ^ 448 - 2 ^ 224 - 1 : Nat) = 726838724295606890549323807888004534353641360687318060281490199180612328166730772686396383698676545930088884461843637361053498018365439 by decide +kernel) ▸ h
theorem prime_k256 : Prm (2 ^ 256 - 2 ^ 32 - 977) := by
  have h := pr_115792089237316195423570985008687907853269984665640564039457584007908834671663
  exact (show (2 ^ 256 - 2 ^ 32 - 977 : Nat) = 115792089237316195423570985008687907853269984665640564039457584007908834671663 by decide +kernel) ▸ h
theorem prime_p224 : Prm (2 ^ 224 - 2 ^ 96 + 1) := by
  have h := pr_26959946667150639794667015087019630673557916260026308143510066298881
  exact (show (2 ^ 224 - 2 ^ 96 + 1 : Nat) = 26959946667150639794667015087019630673557916260026308143510066298881 by decide +kernel) ▸ h
theorem prime_p192 : Prm (2 ^ 192 - 2 ^ 64 - 1) := by
  have h := pr_6277101735386680763835789423207666416083908700390324961279
  exact (show (2 ^ 192 - 2 ^ 64 - 1 : Nat) = 6277101735386680763835789423207666416083908700390324961279 by decide +kernel) ▸ h
theorem prime_p414 : Prm (2 ^ 414 - 17) := by
  have h := pr_42307582002575910332922579714097346549017899709713998034217522897561970639123926132812109468141778230245837569601494931472367
  exact (show (2 ^ 414 - 17 : Nat) = 42307582002575910332922579714097346549017899709713998034217522897561970639123926132812109468141778230245837569601494931472367 by decide +kernel) ▸ h
end Go.Proofs.YtkhopfobjijnlaaGreatDoor
namespace Go.Proofs.YtkhopfobjijnlaaGreatDoor

theorem Prm.pow_red {p c d : Nat} (hp : Prm p) (hd : d % (p - 1) ≠ 0) : c ^ d % p = c ^ (d % (p - 1)) % p := by
  have hd0 : d ≠ 0 := by intro h; rw [h] at hd; simp at hd
  by_cases h : p ∣ c
  · have h1 : ∀ k, k ≠ 0 → c ^ k % p = 0 := by
      intro k hk
      obtain ⟨j, rfl⟩ : ∃ j, k = j + 1 := ⟨k - 1, by omega⟩
      rw [Nat.pow_succ]
      exact Nat.mod_eq_zero_of_dvd (Nat.dvd_trans h (Nat.dvd_mul_left _ _))
    rw [h1 d hd0, h1 _ hd]
  · have e : d = (p - 1) * (d / (p - 1)) + d % (p - 1) := (Nat.div_add_mod _ _).symm
    have h1 : (c ^ (p - 1)) ^ (d / (p - 1)) % p = 1 := by
      rw [Nat.pow_mod, hp.fermat1 h, Nat.one_pow, Nat.mod_eq_of_lt hp.1]
    generalize hr : d % (p - 1) = r at *
    generalize d / (p - 1) = k at *
    rw [e, Nat.pow_add, Nat.pow_mul, Nat.mul_mod, h1, Nat.one_mul, Nat.mod_mod]
theorem crt_le {p q x y : Nat} (hc : Nat.Coprime p q) (h1 : x % p = y % p) (h2 : x % q = y % q) (hl : y ≤ x) : x % (p * q) = y % (p * q) := by
  have d1 : p ∣ x - y := Nat.dvd_of_mod_eq_zero (Nat.sub_mod_eq_zero_of_mod_eq h1)
  have d2 : q ∣ x - y := Nat.dvd_of_mod_eq_zero (Nat.sub_mod_eq_zero_of_mod_eq h2)
  obtain ⟨t, ht⟩ := hc.mul_dvd_of_dvd_of_dvd d1 d2
  have : x = y + p * q * t := by omega
  rw [this, Nat.add_mul_mod_self_left]
theorem crt_eq {p q x y : Nat} (hc : Nat.Coprime p q) (h1 : x % p = y % p) (h2 : x % q = y % q) : x % (p * q) = y % (p * q) := by
  rcases Nat.le_total y x with h | h
  · exact crt_le hc h1 h2 h
  · exact (crt_le hc h1.symm h2.symm h).symm
theorem Prm.cop2 {p q : Nat} (hp : Prm p) (hq : Prm q) (h : p ≠ q) : Nat.Coprime p q := by
  refine hp.cop ?_
  intro hd
  rcases hq.2 p hd with h1 | h1
  · have := hp.1; omega
  · exact h h1

/-- What the code makes of a ciphertext. -/
def crtV (p q N c dP dQ qi : Nat) : Nat :=
  ((((c % p) ^ dP % p + p - (c % q) ^ dQ % q % p) % p * qi % p) * (q % N) % N + (c % q) ^ dQ % q) % N
theorem crtV_eq {p q c d qi : Nat} (hp : Prm p) (hq : Prm q) (hne : p ≠ q) (h1 : d % (p - 1) ≠ 0) (h2 : d % (q - 1) ≠ 0) (hi : qi * q % p = 1) :
    crtV p q (p * q) c (d % (p - 1)) (d % (q - 1)) qi = c ^ d % (p * q) := by
  unfold crtV
  have e1 : (c % p) ^ (d % (p - 1)) % p = c ^ d % p := by rw [← Nat.pow_mod, hp.pow_red h1]
  have e2 : (c % q) ^ (d % (q - 1)) % q = c ^ d % q := by rw [← Nat.pow_mod, hq.pow_red h2]
  rw [e1, e2]
  generalize hx : c ^ d = x
  have hp0 := hp.pos
  have l1 : x % p < p := Nat.mod_lt _ hp0
  have l2 : x % q % p < p := Nat.mod_lt _ hp0
  generalize hg : (x % p + p - x % q % p) = g
  have hgl : g + x % q % p = x % p + p := by omega
  rw [Nat.mul_mod_mod, Nat.mod_add_mod]
  refine crt_eq (hp.cop2 hq hne) ?_ ?_
  · have h3 : (g % p * qi % p * q) % p = g % p := by
      rw [Nat.mod_mul_mod, Nat.mul_assoc, Nat.mul_mod, hi, Nat.mul_one, Nat.mod_mod, Nat.mod_mod]
    rw [Nat.add_mod, h3, ← Nat.add_mod, ← Nat.add_mod_mod, hgl, Nat.add_mod_right, Nat.mod_mod]
  · rw [Nat.add_mod, Nat.mul_mod_left, Nat.zero_add, Nat.mod_mod, Nat.mod_mod]
/-- The inverse by Fermat's way. -/
theorem Prm.inv_pow {p q : Nat} (hp : Prm p) (hq : Prm q) (hne : p ≠ q) : (q % p) ^ (p - 2) % p * q % p = 1 := by
  have hnd : ¬ p ∣ q := by
    intro hd
    rcases hq.2 p hd with h1 | h1
    · have := hp.1; omega
    · exact hne h1
  have h2 := hp.fermat1 hnd
  have h1 := hp.1
  rw [Nat.mod_mul_mod, Nat.mul_mod, ← Nat.pow_mod, ← Nat.mul_mod, ← Nat.pow_succ, show (p - 2).succ = p - 1 by omega]
  exact h2
end Go.Proofs.YtkhopfobjijnlaaGreatDoor
