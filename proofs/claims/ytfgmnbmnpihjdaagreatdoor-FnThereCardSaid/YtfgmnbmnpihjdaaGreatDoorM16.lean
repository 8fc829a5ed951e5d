/- Lemmas of mine for the walk and its plain laws: Sha256U Sha512U -/
import Derived.Test.YtfgmnbmnpihjdaaGreatDoorM06
import Derived.Test.YtfgmnbmnpihjdaaGreatDoorM15
import Derived.Deep.DeepCutAuto
import Derived.Test.YtfgmnbmnpihjdaaGreatDoorM10
set_option linter.all false
set_option exponentiation.threshold 7000000
set_option maxHeartbeats 4000000
namespace Go.Proofs.YtfgmnbmnpihjdaaGreatDoor
open Go.RowKit
set_option maxRecDepth 100000 in
theorem c_Sum256(d:Nat)(M:List Nat)(K:List Int)(w:World)(base:Nat)(v:Value)(hD:DgAt (blk256 K) 64 v32 141 w d ini256 (.bool false) M)(hK:Blk w 5 237 (K.map v32))(lK:K.length=64)(lM:M.length≤50000)
 (hown:Own Go.Proofs.YtfgmnbmnpihjdaaGreatDoor.u8 5 w base v []) (hb:base≤w.heap.size) :
 Calls Tryz.prog 179 #[ptr d,v] w fun e w'=>∃v',e=.returned v'∧Own Go.Proofs.YtfgmnbmnpihjdaaGreatDoor.u8 5 w' base v' ((dig256 (stH (blk256 K) 64 ini256 (M++padP256 M.length))).take 32)∧Mod v.ownBlock.toList w w':=by
 obtain⟨X,lX,hX,hB⟩:=hD
 have lh:=st256_length (K:=K) (ini:=ini256) rfl M
 have hdw:=hB.lt
 have cfl0:w.cell? ⟨d,74,none⟩=some (.bool false):=DgRow.at_fl hB lh lX rfl
 go_enter Tryz.func179,Tryz.ntmps179
 go_upto_region 1 with fail
 refine wp_region_lit ?_
 refine wpList_plain (by rfl) fun K1 hK1=>?_
 unfold Oper.wp execOp
 go_simp
 refine hK1 _ _ ?_
 refine wpList_plain (by rfl) fun K2 hK2=>?_
 unfold Oper.wp execOp
 go_simp
 refine hK2 _ _ ?_
 have hrow:(DgRow v32 (stH (blk256 K) 64 ini256 M) X (M.length%64) M.length (.bool false)).length=75:=DgRow.length lh lX
 obtain⟨cs,hcs⟩:∃cs,cs=DgRow v32 (stH (blk256 K) 64 ini256 M) X (M.length%64) M.length (.bool false):=⟨_,rfl⟩
 rw[←hcs]at hrow hB
 have HCS:=hide hcs
 have hone:∀u∈cs,u.oneCell'=true:=by rw[hcs];exact DgRow.one (fun _=>rfl) rfl
 obtain⟨W,hW⟩:∃W,W=w.alloc (.cells (DgRow v32 (List.replicate 8 0) (List.replicate 64 0) 0 0 (.bool false)).toArray 141):=⟨_,rfl⟩
 have hZ:Blk W w.heap.size 141 (DgRow v32 (List.replicate 8 0) (List.replicate 64 0) 0 0 (.bool false)):=by rw[hW];exact Blk.new w _ _
 have mW:Mod [] w W:=by rw[hW];exact(Mod.refl [] w).alloc _
 have hZl:(DgRow v32 (List.replicate 8 0) (List.replicate 64 0) 0 0 (.bool false)).length=75:=DgRow.length rfl rfl
 clear hcs
 refine wpList_load_mid (by rfl) 141 _ (by rfl) d 0 (by rfl) cs _ hB.range Tryz.underlying141 (by rfl) (by rw[hrow];kernel_rfl) ?_
 refine wpList_plain (by rfl) fun K3 hK3=>?_
 unfold Oper.wp execOp
 go_simp
 refine hK3 _ _ ?_
 refine(?_:wpList _ _ _ _ _ (w.alloc (.cells (DgRow v32 (List.replicate 8 0) (List.replicate 64 0) 0 0 (.bool false)).toArray 141)))
 rw[←hW]
 clear hW
 refine wpList_store_mid (by rfl) 141 _ _ (by rfl) w.heap.size 0 cs.toArray (by rfl) (by rfl) (hZ.there (by rw[List.size_toArray,hrow,hZl];exact Nat.le_refl _)) (by simp only[List.size_toArray,hrow];kernel_rfl) (all_oneCell_toArray hone) ?_
 refine wpList_nil ?_
 obtain⟨W2,hW2⟩:∃W2,W2=W.setCells w.heap.size 0 cs.toArray.toList:=⟨_,rfl⟩
 have hB2:Blk W2 w.heap.size 141 cs:=by rw[hW2];exact hZ.overwrite (hZl.trans hrow.symm)
 have m2:Mod [] w W2:=by rw[hW2];exact Mod.setCells _ _ mW (fun h=>absurd h (Nat.lt_irrefl _))
 rw[←hW2]
 clear hW2
 have CK:=hide (c_check256 w.heap.size M K W2 ⟨X,lX,hX,by rw[HCS.out]at hB2;exact hB2⟩ (hK.mod m2 (by simp)) lK lM)
 clear hX hrow hone hZ hZl mW
 go_wp2_with fail
 refine CK.out.mono ?_
 rintro e w3 ⟨rfl,m3,c3⟩
 obtain⟨D,hD⟩:∃D,D=dig256 (stH (blk256 K) 64 ini256 (M++padP256 M.length)):=⟨_,rfl⟩
 have hDl:D.length=32:=by rw[hD];simp[dig256,putL_length]
 rw[←hD]
 have HD:=hide hD
 clear hD
 apply_assumption
 obtain⟨W4,hW4⟩:∃W4,W4=w3.alloc (.cells (List.replicate 32 (Go.Proofs.YtfgmnbmnpihjdaaGreatDoor.u8 0)).toArray 231):=⟨_,rfl⟩
 obtain⟨g4,hg4⟩:∃g4,g4=w3.heap.size:=⟨_,rfl⟩
 have hZ4:Blk W4 g4 231 (List.replicate 32 (Go.Proofs.YtfgmnbmnpihjdaaGreatDoor.u8 0)):=by rw[hW4,hg4];exact Blk.new w3 _ _
 have m4:Mod [] w3 W4:=by rw[hW4];exact(Mod.refl [] w3).alloc _
 have c4:=cell_up0 c3 m4
 refine wpList_plain (by rfl) fun K4 hK4=>?_
 unfold Oper.wp execOp
 go_simp
 refine hK4 _ _ ?_
 refine(?_:wpList _ _ _ _ _ (w3.alloc (.cells (List.replicate 32 (Go.Proofs.YtfgmnbmnpihjdaaGreatDoor.u8 0)).toArray 231)))
 rw[←hW4,←hg4]
 refine wpList_store_mid (by rfl) 231 _ _ (by rfl) g4 0 (D.map Go.Proofs.YtfgmnbmnpihjdaaGreatDoor.u8).toArray (by rfl) (by rfl) (hZ4.there (by simp[hDl])) (by rw[List.size_toArray,List.length_map,hDl];kernel_rfl) (all_oneCell_toArray (oneCell_map Go.Proofs.YtfgmnbmnpihjdaaGreatDoor.u8 (fun _=>rfl) _)) ?_
 refine wpList_nil ?_
 obtain⟨W5,hW5⟩:∃W5,W5=W4.setCells g4 0 (D.map Go.Proofs.YtfgmnbmnpihjdaaGreatDoor.u8).toArray.toList:=⟨_,rfl⟩
 have hB5:Blk W5 g4 231 (D.map Go.Proofs.YtfgmnbmnpihjdaaGreatDoor.u8):=by rw[hW5];exact hZ4.overwrite (by simp[hDl])
 have m5:Mod [g4] W4 W5:=by rw[hW5];exact Mod.setCells _ _ (Mod.refl [g4] W4) (fun _=>by simp)
 have hlt3:w.heap.size<w3.heap.size:=block_lt_of_cell c3
 have c5:W5.cell? ⟨w.heap.size,74,none⟩=some (.bool false):=cell_off c4 m5 (by simp;omega)
 rw[←hW5]
 clear hW5 hW4 hZ4 c3 c4
 have mw3:Mod [] w w3:=m2.old m3
 have mw4:Mod [] w W4:=mw3.trans m4 (by simp) (by simp)
 have mw5:Mod [] w W5:=mw4.old m5 (by have:=mw3.size;omega)
 have own5:=hown.mod mw5 (by simp)
 have cfl:=cell_up0 cfl0 mw5
 obtain⟨E,hE⟩:∃E,E=D.take 32:=⟨_,rfl⟩
 have hEl:E.length=32:=by rw[hE,List.length_take,hDl];rfl
 obtain⟨v',w',hr,hown',hgr⟩:=run_app (z:=.int .u8 0) rfl Tryz.underlying23 info_u8 (by omega) base v 0 [] W5 own5 ⟨g4,0,none⟩ 32 (E.map Go.Proofs.YtfgmnbmnpihjdaaGreatDoor.u8) 32 (by simp[hEl])
  (by
    intro j u hj
    have hjl:j<E.length:=by simpa using(List.getElem?_eq_some_iff.1 hj).1
    rw[hE,List.map_take,List.getElem?_take,if_pos (by omega)]at hj
    rw[add_addr,Nat.zero_add,hB5.cell];exact hj) (oneCell_map Go.Proofs.YtfgmnbmnpihjdaaGreatDoor.u8 (fun _=>rfl) E) (by omega) (Nat.le_trans hb mw5.size) 23
 have hsa:∀u,(Instr.sliceAt 231 (.pointer (some ⟨g4,0,none⟩)) none none none).run Tryz.prog u=.ok (sl g4 0 32 32) u:=fun u=>run_arr_all Tryz.underlying231 (n:=32) (by kernel_rfl) (by kernel_rfl) (by kernel_rfl) g4 0 (by omega) u
 have hm':Mod v.ownBlock.toList W5 w':=Mod.grown hgr (fun k hk _=>by rw[hk];simp)
 have hfin:Own Go.Proofs.YtfgmnbmnpihjdaaGreatDoor.u8 5 w' base v' E:=by
  show w'.ownsRow base 5 1 v' E.length (E.map Go.Proofs.YtfgmnbmnpihjdaaGreatDoor.u8)
  rw[hEl]
  simpa using hown'
 have HE:=hide hE
 clear hB5 m5 m4 mw3 mw4 CK m2 hB2 hown own5 hown' hgr hE hEl cfl0
 clear hK1 hK2 hK3 hK4 hK lh lX hb lK lM
 dsimp only[Act.put]
 apply_assumption
 clear hB HCS m3 hDl hg4 hlt3 cfl hdw
 go_upto_region 5 with fail
 refine wp_region_lit ?_
 refine wpList_plain (by rfl) fun K10 hK10=>?_
 unfold Oper.wp execOp
 go_simp
 refine hK10 _ _ ?_
 refine wpList_plain (by rfl) fun K11 hK11=>?_
 unfold Oper.wp execOp
 go_simp
 refine hK11 _ _ ?_
 clear hK10 hK11
 refine wpl_run2 rfl _ _ _ rfl _ _ rfl rfl hr ?_
 dsimp only[Act.put]
 refine wpList_plain (by rfl) fun K7 hK7=>?_
 unfold Oper.wp execOp
 go_simp
 refine hK7 _ _ ?_
 clear hK7
 refine wpList_nil ?_
 apply_assumption
 go_wp2_with fail
 go_ret
 exact⟨v',rfl,by rw[←HD.out,←HE.out];exact hfin,mw5.then1 hm'⟩
set_option maxRecDepth 100000 in
theorem c_Sum224(d:Nat)(M:List Nat)(K:List Int)(w:World)(base:Nat)(v:Value)(hD:DgAt (blk256 K) 64 v32 141 w d ini224 (.bool true) M)(hK:Blk w 5 237 (K.map v32))(lK:K.length=64)(lM:M.length≤50000)
 (hown:Own Go.Proofs.YtfgmnbmnpihjdaaGreatDoor.u8 5 w base v []) (hb:base≤w.heap.size) :
 Calls Tryz.prog 179 #[ptr d,v] w fun e w'=>∃v',e=.returned v'∧Own Go.Proofs.YtfgmnbmnpihjdaaGreatDoor.u8 5 w' base v' ((dig224 (stH (blk256 K) 64 ini224 (M++padP256 M.length))).take 28)∧Mod v.ownBlock.toList w w':=by
 obtain⟨X,lX,hX,hB⟩:=hD
 have lh:=st256_length (K:=K) (ini:=ini224) rfl M
 have hdw:=hB.lt
 have cfl0:w.cell? ⟨d,74,none⟩=some (.bool true):=DgRow.at_fl hB lh lX rfl
 go_enter Tryz.func179,Tryz.ntmps179
 go_upto_region 1 with fail
 refine wp_region_lit ?_
 refine wpList_plain (by rfl) fun K1 hK1=>?_
 unfold Oper.wp execOp
 go_simp
 refine hK1 _ _ ?_
 refine wpList_plain (by rfl) fun K2 hK2=>?_
 unfold Oper.wp execOp
 go_simp
 refine hK2 _ _ ?_
 have hrow:(DgRow v32 (stH (blk256 K) 64 ini224 M) X (M.length%64) M.length (.bool true)).length=75:=DgRow.length lh lX
 obtain⟨cs,hcs⟩:∃cs,cs=DgRow v32 (stH (blk256 K) 64 ini224 M) X (M.length%64) M.length (.bool true):=⟨_,rfl⟩
 rw[←hcs]at hrow hB
 have HCS:=hide hcs
 have hone:∀u∈cs,u.oneCell'=true:=by rw[hcs];exact DgRow.one (fun _=>rfl) rfl
 obtain⟨W,hW⟩:∃W,W=w.alloc (.cells (DgRow v32 (List.replicate 8 0) (List.replicate 64 0) 0 0 (.bool false)).toArray 141):=⟨_,rfl⟩
 have hZ:Blk W w.heap.size 141 (DgRow v32 (List.replicate 8 0) (List.replicate 64 0) 0 0 (.bool false)):=by rw[hW];exact Blk.new w _ _
 have mW:Mod [] w W:=by rw[hW];exact(Mod.refl [] w).alloc _
 have hZl:(DgRow v32 (List.replicate 8 0) (List.replicate 64 0) 0 0 (.bool false)).length=75:=DgRow.length rfl rfl
 clear hcs
 refine wpList_load_mid (by rfl) 141 _ (by rfl) d 0 (by rfl) cs _ hB.range Tryz.underlying141 (by rfl) (by rw[hrow];kernel_rfl) ?_
 refine wpList_plain (by rfl) fun K3 hK3=>?_
 unfold Oper.wp execOp
 go_simp
 refine hK3 _ _ ?_
 refine(?_:wpList _ _ _ _ _ (w.alloc (.cells (DgRow v32 (List.replicate 8 0) (List.replicate 64 0) 0 0 (.bool false)).toArray 141)))
 rw[←hW]
 clear hW
 refine wpList_store_mid (by rfl) 141 _ _ (by rfl) w.heap.size 0 cs.toArray (by rfl) (by rfl) (hZ.there (by rw[List.size_toArray,hrow,hZl];exact Nat.le_refl _)) (by simp only[List.size_toArray,hrow];kernel_rfl) (all_oneCell_toArray hone) ?_
 refine wpList_nil ?_
 obtain⟨W2,hW2⟩:∃W2,W2=W.setCells w.heap.size 0 cs.toArray.toList:=⟨_,rfl⟩
 have hB2:Blk W2 w.heap.size 141 cs:=by rw[hW2];exact hZ.overwrite (hZl.trans hrow.symm)
 have m2:Mod [] w W2:=by rw[hW2];exact Mod.setCells _ _ mW (fun h=>absurd h (Nat.lt_irrefl _))
 rw[←hW2]
 clear hW2
 have CK:=hide (c_check224 w.heap.size M K W2 ⟨X,lX,hX,by rw[HCS.out]at hB2;exact hB2⟩ (hK.mod m2 (by simp)) lK lM)
 clear hX hrow hone hZ hZl mW
 go_wp2_with fail
 refine CK.out.mono ?_
 rintro e w3 ⟨rfl,m3,c3⟩
 obtain⟨D,hD⟩:∃D,D=dig224 (stH (blk256 K) 64 ini224 (M++padP256 M.length)):=⟨_,rfl⟩
 have hDl:D.length=32:=by rw[hD];simp[dig224,putL_length]
 rw[←hD]
 have HD:=hide hD
 clear hD
 apply_assumption
 obtain⟨W4,hW4⟩:∃W4,W4=w3.alloc (.cells (List.replicate 32 (Go.Proofs.YtfgmnbmnpihjdaaGreatDoor.u8 0)).toArray 231):=⟨_,rfl⟩
 obtain⟨g4,hg4⟩:∃g4,g4=w3.heap.size:=⟨_,rfl⟩
 have hZ4:Blk W4 g4 231 (List.replicate 32 (Go.Proofs.YtfgmnbmnpihjdaaGreatDoor.u8 0)):=by rw[hW4,hg4];exact Blk.new w3 _ _
 have m4:Mod [] w3 W4:=by rw[hW4];exact(Mod.refl [] w3).alloc _
 have c4:=cell_up0 c3 m4
 refine wpList_plain (by rfl) fun K4 hK4=>?_
 unfold Oper.wp execOp
 go_simp
 refine hK4 _ _ ?_
 refine(?_:wpList _ _ _ _ _ (w3.alloc (.cells (List.replicate 32 (Go.Proofs.YtfgmnbmnpihjdaaGreatDoor.u8 0)).toArray 231)))
 rw[←hW4,←hg4]
 refine wpList_store_mid (by rfl) 231 _ _ (by rfl) g4 0 (D.map Go.Proofs.YtfgmnbmnpihjdaaGreatDoor.u8).toArray (by rfl) (by rfl) (hZ4.there (by simp[hDl])) (by rw[List.size_toArray,List.length_map,hDl];kernel_rfl) (all_oneCell_toArray (oneCell_map Go.Proofs.YtfgmnbmnpihjdaaGreatDoor.u8 (fun _=>rfl) _)) ?_
 refine wpList_nil ?_
 obtain⟨W5,hW5⟩:∃W5,W5=W4.setCells g4 0 (D.map Go.Proofs.YtfgmnbmnpihjdaaGreatDoor.u8).toArray.toList:=⟨_,rfl⟩
 have hB5:Blk W5 g4 231 (D.map Go.Proofs.YtfgmnbmnpihjdaaGreatDoor.u8):=by rw[hW5];exact hZ4.overwrite (by simp[hDl])
 have m5:Mod [g4] W4 W5:=by rw[hW5];exact Mod.setCells _ _ (Mod.refl [g4] W4) (fun _=>by simp)
 have hlt3:w.heap.size<w3.heap.size:=block_lt_of_cell c3
 have c5:W5.cell? ⟨w.heap.size,74,none⟩=some (.bool true):=cell_off c4 m5 (by simp;omega)
 rw[←hW5]
 clear hW5 hW4 hZ4 c3 c4
 have mw3:Mod [] w w3:=m2.old m3
 have mw4:Mod [] w W4:=mw3.trans m4 (by simp) (by simp)
 have mw5:Mod [] w W5:=mw4.old m5 (by have:=mw3.size;omega)
 have own5:=hown.mod mw5 (by simp)
 have cfl:=cell_up0 cfl0 mw5
 obtain⟨E,hE⟩:∃E,E=D.take 28:=⟨_,rfl⟩
 have hEl:E.length=28:=by rw[hE,List.length_take,hDl];rfl
 obtain⟨v',w',hr,hown',hgr⟩:=run_app (z:=.int .u8 0) rfl Tryz.underlying23 info_u8 (by omega) base v 0 [] W5 own5 ⟨g4,0,none⟩ 32 (E.map Go.Proofs.YtfgmnbmnpihjdaaGreatDoor.u8) 28 (by simp[hEl])
  (by
    intro j u hj
    have hjl:j<E.length:=by simpa using(List.getElem?_eq_some_iff.1 hj).1
    rw[hE,List.map_take,List.getElem?_take,if_pos (by omega)]at hj
    rw[add_addr,Nat.zero_add,hB5.cell];exact hj) (oneCell_map Go.Proofs.YtfgmnbmnpihjdaaGreatDoor.u8 (fun _=>rfl) E) (by omega) (Nat.le_trans hb mw5.size) 23
 have hsa:∀u,(Instr.sliceAt 231 (.pointer (some ⟨g4,0,none⟩)) none (some (.int .i64 28)) none).run Tryz.prog u=.ok (sl g4 0 28 32) u:=fun u=>run_arr_to Tryz.underlying231 (n:=32) (by kernel_rfl) (by kernel_rfl) (by kernel_rfl) .i64 g4 0 28 (by omega) (by omega) u
 have hm':Mod v.ownBlock.toList W5 w':=Mod.grown hgr (fun k hk _=>by rw[hk];simp)
 have hfin:Own Go.Proofs.YtfgmnbmnpihjdaaGreatDoor.u8 5 w' base v' E:=by
  show w'.ownsRow base 5 1 v' E.length (E.map Go.Proofs.YtfgmnbmnpihjdaaGreatDoor.u8)
  rw[hEl]
  simpa using hown'
 have HE:=hide hE
 clear hB5 m5 m4 mw3 mw4 CK m2 hB2 hown own5 hown' hgr hE hEl cfl0
 clear hK1 hK2 hK3 hK4 hK lh lX hb lK lM
 dsimp only[Act.put]
 apply_assumption
 clear hB HCS m3 hDl hg4 hlt3 cfl hdw
 go_upto_region 4 with fail
 refine wp_region_lit ?_
 refine wpList_plain (by rfl) fun K10 hK10=>?_
 unfold Oper.wp execOp
 go_simp
 refine hK10 _ _ ?_
 refine wpList_plain (by rfl) fun K11 hK11=>?_
 unfold Oper.wp execOp
 go_simp
 refine hK11 _ _ ?_
 clear hK10 hK11
 refine wpl_run2 rfl _ _ _ rfl _ _ rfl rfl hr ?_
 dsimp only[Act.put]
 refine wpList_plain (by rfl) fun K7 hK7=>?_
 unfold Oper.wp execOp
 go_simp
 refine hK7 _ _ ?_
 clear hK7
 refine wpList_nil ?_
 apply_assumption
 go_wp2_with fail
 go_ret
 exact⟨v',rfl,by rw[←HD.out,←HE.out];exact hfin,mw5.then1 hm'⟩
set_option maxRecDepth 100000 in
theorem c_Sum512(d:Nat)(M:List Nat)(K:List Int)(w:World)(base:Nat)(v:Value)(hD:DgAt (blk512 K) 128 v64 145 w d ini512 (i64 64) M)(hK:Blk w 6 241 (K.map v64))(lK:K.length=80)(lM:M.length≤50000)
 (hown:Own Go.Proofs.YtfgmnbmnpihjdaaGreatDoor.u8 5 w base v []) (hb:base≤w.heap.size) :
 Calls Tryz.prog 189 #[ptr d,v] w fun e w'=>∃v',e=.returned v'∧Own Go.Proofs.YtfgmnbmnpihjdaaGreatDoor.u8 5 w' base v' ((dig512 (stH (blk512 K) 128 ini512 (M++padP512 M.length))).take 64)∧Mod v.ownBlock.toList w w':=by
 obtain⟨X,lX,hX,hB⟩:=hD
 have lh:=st512_length (K:=K) (ini:=ini512) rfl M
 have hdw:=hB.lt
 have cfl0:w.cell? ⟨d,138,none⟩=some (.int .i64 64):=DgRow.at_fl hB lh lX rfl
 go_enter Tryz.func189,Tryz.ntmps189
 have hrow:(DgRow v64 (stH (blk512 K) 128 ini512 M) X (M.length%128) M.length (i64 64)).length=139:=DgRow.length lh lX
 obtain⟨cs,hcs⟩:∃cs,cs=DgRow v64 (stH (blk512 K) 128 ini512 M) X (M.length%128) M.length (i64 64):=⟨_,rfl⟩
 rw[←hcs]at hrow hB
 have HCS:=hide hcs
 have hone:∀u∈cs,u.oneCell'=true:=by rw[hcs];exact DgRow.one (fun _=>rfl) rfl
 obtain⟨W,hW⟩:∃W,W=w.alloc (.cells (DgRow v64 (List.replicate 8 0) (List.replicate 128 0) 0 0 (i64 0)).toArray 145):=⟨_,rfl⟩
 have hZ:Blk W w.heap.size 145 (DgRow v64 (List.replicate 8 0) (List.replicate 128 0) 0 0 (i64 0)):=by rw[hW];exact Blk.new w _ _
 have mW:Mod [] w W:=by rw[hW];exact(Mod.refl [] w).alloc _
 have hZl:(DgRow v64 (List.replicate 8 0) (List.replicate 128 0) 0 0 (i64 0)).length=139:=DgRow.length rfl rfl
 clear hcs
 go_upto_region 2 with fail
 refine(?_:Code.wp _ _ _ _ (w.alloc (.cells (DgRow v64 (List.replicate 8 0) (List.replicate 128 0) 0 0 (i64 0)).toArray 145)))
 rw[←hW]
 clear hW
 have hBW:=hB.mod mW (by simp)
 refine wp_region_lit ?_
 refine wpList_plain (by rfl) fun K1 hK1=>?_
 unfold Oper.wp execOp
 go_simp
 refine hK1 _ _ ?_
 refine wpList_plain (by rfl) fun K2 hK2=>?_
 unfold Oper.wp execOp
 go_simp
 refine hK2 _ _ ?_
 refine wpList_plain (by rfl) fun K3 hK3=>?_
 unfold Oper.wp execOp
 go_simp
 refine hK3 _ _ ?_
 refine wpList_load_mid (by rfl) 145 _ (by rfl) d 0 (by rfl) cs _ hBW.range Tryz.underlying145 (by rfl) (by rw[hrow];kernel_rfl) ?_
 dsimp only[Act.put]
 refine wpList_plain (by rfl) fun K8 hK8=>?_
 unfold Oper.wp execOp
 go_simp
 refine hK8 _ _ ?_
 refine wpList_store_mid (by rfl) 145 _ _ (by rfl) w.heap.size 0 cs.toArray (by rfl) (by rfl) (hZ.there (by rw[List.size_toArray,hrow,hZl];exact Nat.le_refl _)) (by simp only[List.size_toArray,hrow];kernel_rfl) (all_oneCell_toArray hone) ?_
 refine wpList_nil ?_
 obtain⟨W2,hW2⟩:∃W2,W2=W.setCells w.heap.size 0 cs.toArray.toList:=⟨_,rfl⟩
 have hB2:Blk W2 w.heap.size 145 cs:=by rw[hW2];exact hZ.overwrite (hZl.trans hrow.symm)
 have m2:Mod [] w W2:=by rw[hW2];exact Mod.setCells _ _ mW (fun h=>absurd h (Nat.lt_irrefl _))
 rw[←hW2]
 clear hW2
 have CK:=hide (c_check512 w.heap.size M K W2 ⟨X,lX,hX,by rw[HCS.out]at hB2;exact hB2⟩ (hK.mod m2 (by simp)) lK lM)
 clear hX hrow hone hZ hZl mW
 dsimp only[Act.put]
 apply_assumption
 clear hBW
 go_wp2_with fail
 refine CK.out.mono ?_
 rintro e w3 ⟨rfl,m3,c3⟩
 obtain⟨D,hD⟩:∃D,D=dig512 (stH (blk512 K) 128 ini512 (M++padP512 M.length)):=⟨_,rfl⟩
 have hDl:D.length=64:=by rw[hD];simp[dig512,putL_length]
 rw[←hD]
 have HD:=hide hD
 clear hD
 apply_assumption
 obtain⟨W4,hW4⟩:∃W4,W4=w3.alloc (.cells (List.replicate 64 (Go.Proofs.YtfgmnbmnpihjdaaGreatDoor.u8 0)).toArray 139):=⟨_,rfl⟩
 obtain⟨g4,hg4⟩:∃g4,g4=w3.heap.size:=⟨_,rfl⟩
 have hZ4:Blk W4 g4 139 (List.replicate 64 (Go.Proofs.YtfgmnbmnpihjdaaGreatDoor.u8 0)):=by rw[hW4,hg4];exact Blk.new w3 _ _
 have m4:Mod [] w3 W4:=by rw[hW4];exact(Mod.refl [] w3).alloc _
 have c4:=cell_up0 c3 m4
 refine wpList_plain (by rfl) fun K4 hK4=>?_
 unfold Oper.wp execOp
 go_simp
 refine hK4 _ _ ?_
 refine(?_:wpList _ _ _ _ _ (w3.alloc (.cells (List.replicate 64 (Go.Proofs.YtfgmnbmnpihjdaaGreatDoor.u8 0)).toArray 139)))
 rw[←hW4,←hg4]
 refine wpList_store_mid (by rfl) 139 _ _ (by rfl) g4 0 (D.map Go.Proofs.YtfgmnbmnpihjdaaGreatDoor.u8).toArray (by rfl) (by rfl) (hZ4.there (by simp[hDl])) (by rw[List.size_toArray,List.length_map,hDl];kernel_rfl) (all_oneCell_toArray (oneCell_map Go.Proofs.YtfgmnbmnpihjdaaGreatDoor.u8 (fun _=>rfl) _)) ?_
 refine wpList_nil ?_
 obtain⟨W5,hW5⟩:∃W5,W5=W4.setCells g4 0 (D.map Go.Proofs.YtfgmnbmnpihjdaaGreatDoor.u8).toArray.toList:=⟨_,rfl⟩
 have hB5:Blk W5 g4 139 (D.map Go.Proofs.YtfgmnbmnpihjdaaGreatDoor.u8):=by rw[hW5];exact hZ4.overwrite (by simp[hDl])
 have m5:Mod [g4] W4 W5:=by rw[hW5];exact Mod.setCells _ _ (Mod.refl [g4] W4) (fun _=>by simp)
 have hlt3:w.heap.size<w3.heap.size:=block_lt_of_cell c3
 have c5:W5.cell? ⟨w.heap.size,138,none⟩=some (.int .i64 64):=cell_off c4 m5 (by simp;omega)
 rw[←hW5]
 clear hW5 hW4 hZ4 c3 c4
 have mw3:Mod [] w w3:=m2.old m3
 have mw4:Mod [] w W4:=mw3.trans m4 (by simp) (by simp)
 have mw5:Mod [] w W5:=mw4.old m5 (by have:=mw3.size;omega)
 have own5:=hown.mod mw5 (by simp)
 have cfl:=cell_up0 cfl0 mw5
 obtain⟨E,hE⟩:∃E,E=D.take 64:=⟨_,rfl⟩
 have hEl:E.length=64:=by rw[hE,List.length_take,hDl];rfl
 obtain⟨v',w',hr,hown',hgr⟩:=run_app (z:=.int .u8 0) rfl Tryz.underlying23 info_u8 (by omega) base v 0 [] W5 own5 ⟨g4,0,none⟩ 64 (E.map Go.Proofs.YtfgmnbmnpihjdaaGreatDoor.u8) 64 (by simp[hEl])
  (by
    intro j u hj
    have hjl:j<E.length:=by simpa using(List.getElem?_eq_some_iff.1 hj).1
    rw[hE,List.map_take,List.getElem?_take,if_pos (by omega)]at hj
    rw[add_addr,Nat.zero_add,hB5.cell];exact hj) (oneCell_map Go.Proofs.YtfgmnbmnpihjdaaGreatDoor.u8 (fun _=>rfl) E) (by omega) (Nat.le_trans hb mw5.size) 23
 have hsa:∀u,(Instr.sliceAt 139 (.pointer (some ⟨g4,0,none⟩)) none (some (.int .i64 64)) none).run Tryz.prog u=.ok (sl g4 0 64 64) u:=fun u=>run_arr_to Tryz.underlying139 (n:=64) (by kernel_rfl) (by kernel_rfl) (by kernel_rfl) .i64 g4 0 64 (by omega) (by omega) u
 have hm':Mod v.ownBlock.toList W5 w':=Mod.grown hgr (fun k hk _=>by rw[hk];simp)
 have hfin:Own Go.Proofs.YtfgmnbmnpihjdaaGreatDoor.u8 5 w' base v' E:=by
  show w'.ownsRow base 5 1 v' E.length (E.map Go.Proofs.YtfgmnbmnpihjdaaGreatDoor.u8)
  rw[hEl]
  simpa using hown'
 have HE:=hide hE
 clear hB5 m5 m4 mw3 mw4 CK m2 hB2 hown own5 hown' hgr hE hEl cfl0
 clear hK1 hK2 hK3 hK8 hK4 hK lh lX hb lK lM
 dsimp only[Act.put]
 apply_assumption
 clear hB HCS m3 hDl hg4 hlt3 hdw
 go_upto_region 4 with fail
 refine wp_region_lit ?_
 refine wpList_plain (by rfl) fun K10 hK10=>?_
 unfold Oper.wp execOp
 go_simp
 refine hK10 _ _ ?_
 refine wpList_plain (by rfl) fun K11 hK11=>?_
 unfold Oper.wp execOp
 go_simp
 refine hK11 _ _ ?_
 refine wpList_plain (by rfl) fun K12 hK12=>?_
 unfold Oper.wp execOp
 go_simp
 refine hK12 _ _ ?_
 refine wpList_plain (by rfl) fun K13 hK13=>?_
 unfold Oper.wp execOp
 go_simp
 refine hK13 _ _ ?_
 refine wpList_plain (by rfl) fun K14 hK14=>?_
 unfold Oper.wp execOp
 go_simp
 refine hK14 _ _ ?_
 refine wpList_plain (by rfl) fun K15 hK15=>?_
 unfold Oper.wp execOp
 go_simp
 refine hK15 _ _ ?_
 clear hK10 hK11 hK12 hK13 hK14 hK15
 refine wpl_run2 rfl _ _ _ rfl _ _ rfl rfl hr ?_
 dsimp only[Act.put]
 refine wpList_plain (by rfl) fun K7 hK7=>?_
 unfold Oper.wp execOp
 go_simp
 refine hK7 _ _ ?_
 clear hK7
 refine wpList_nil ?_
 apply_assumption
 go_wp2_with fail
 go_ret
 exact⟨v',rfl,by rw[←HD.out,←HE.out];exact hfin,mw5.then1 hm'⟩
set_option maxRecDepth 100000 in
theorem c_Sum384(d:Nat)(M:List Nat)(K:List Int)(w:World)(base:Nat)(v:Value)(hD:DgAt (blk512 K) 128 v64 145 w d ini384 (i64 48) M)(hK:Blk w 6 241 (K.map v64))(lK:K.length=80)(lM:M.length≤50000)
 (hown:Own Go.Proofs.YtfgmnbmnpihjdaaGreatDoor.u8 5 w base v []) (hb:base≤w.heap.size) :
 Calls Tryz.prog 189 #[ptr d,v] w fun e w'=>∃v',e=.returned v'∧Own Go.Proofs.YtfgmnbmnpihjdaaGreatDoor.u8 5 w' base v' ((dig384 (stH (blk512 K) 128 ini384 (M++padP512 M.length))).take 48)∧Mod v.ownBlock.toList w w':=by
 obtain⟨X,lX,hX,hB⟩:=hD
 have lh:=st512_length (K:=K) (ini:=ini384) rfl M
 have hdw:=hB.lt
 have cfl0:w.cell? ⟨d,138,none⟩=some (.int .i64 48):=DgRow.at_fl hB lh lX rfl
 go_enter Tryz.func189,Tryz.ntmps189
 have hrow:(DgRow v64 (stH (blk512 K) 128 ini384 M) X (M.length%128) M.length (i64 48)).length=139:=DgRow.length lh lX
 obtain⟨cs,hcs⟩:∃cs,cs=DgRow v64 (stH (blk512 K) 128 ini384 M) X (M.length%128) M.length (i64 48):=⟨_,rfl⟩
 rw[←hcs]at hrow hB
 have HCS:=hide hcs
 have hone:∀u∈cs,u.oneCell'=true:=by rw[hcs];exact DgRow.one (fun _=>rfl) rfl
 obtain⟨W,hW⟩:∃W,W=w.alloc (.cells (DgRow v64 (List.replicate 8 0) (List.replicate 128 0) 0 0 (i64 0)).toArray 145):=⟨_,rfl⟩
 have hZ:Blk W w.heap.size 145 (DgRow v64 (List.replicate 8 0) (List.replicate 128 0) 0 0 (i64 0)):=by rw[hW];exact Blk.new w _ _
 have mW:Mod [] w W:=by rw[hW];exact(Mod.refl [] w).alloc _
 have hZl:(DgRow v64 (List.replicate 8 0) (List.replicate 128 0) 0 0 (i64 0)).length=139:=DgRow.length rfl rfl
 clear hcs
 go_upto_region 2 with fail
 refine(?_:Code.wp _ _ _ _ (w.alloc (.cells (DgRow v64 (List.replicate 8 0) (List.replicate 128 0) 0 0 (i64 0)).toArray 145)))
 rw[←hW]
 clear hW
 have hBW:=hB.mod mW (by simp)
 refine wp_region_lit ?_
 refine wpList_plain (by rfl) fun K1 hK1=>?_
 unfold Oper.wp execOp
 go_simp
 refine hK1 _ _ ?_
 refine wpList_plain (by rfl) fun K2 hK2=>?_
 unfold Oper.wp execOp
 go_simp
 refine hK2 _ _ ?_
 refine wpList_plain (by rfl) fun K3 hK3=>?_
 unfold Oper.wp execOp
 go_simp
 refine hK3 _ _ ?_
 refine wpList_load_mid (by rfl) 145 _ (by rfl) d 0 (by rfl) cs _ hBW.range Tryz.underlying145 (by rfl) (by rw[hrow];kernel_rfl) ?_
 dsimp only[Act.put]
 refine wpList_plain (by rfl) fun K8 hK8=>?_
 unfold Oper.wp execOp
 go_simp
 refine hK8 _ _ ?_
 refine wpList_store_mid (by rfl) 145 _ _ (by rfl) w.heap.size 0 cs.toArray (by rfl) (by rfl) (hZ.there (by rw[List.size_toArray,hrow,hZl];exact Nat.le_refl _)) (by simp only[List.size_toArray,hrow];kernel_rfl) (all_oneCell_toArray hone) ?_
 refine wpList_nil ?_
 obtain⟨W2,hW2⟩:∃W2,W2=W.setCells w.heap.size 0 cs.toArray.toList:=⟨_,rfl⟩
 have hB2:Blk W2 w.heap.size 145 cs:=by rw[hW2];exact hZ.overwrite (hZl.trans hrow.symm)
 have m2:Mod [] w W2:=by rw[hW2];exact Mod.setCells _ _ mW (fun h=>absurd h (Nat.lt_irrefl _))
 rw[←hW2]
 clear hW2
 have CK:=hide (c_check384 w.heap.size M K W2 ⟨X,lX,hX,by rw[HCS.out]at hB2;exact hB2⟩ (hK.mod m2 (by simp)) lK lM)
 clear hX hrow hone hZ hZl mW
 dsimp only[Act.put]
 apply_assumption
 clear hBW
 go_wp2_with fail
 refine CK.out.mono ?_
 rintro e w3 ⟨rfl,m3,c3⟩
 obtain⟨D,hD⟩:∃D,D=dig384 (stH (blk512 K) 128 ini384 (M++padP512 M.length)):=⟨_,rfl⟩
 have hDl:D.length=64:=by rw[hD];simp[dig384,putL_length]
 rw[←hD]
 have HD:=hide hD
 clear hD
 apply_assumption
 obtain⟨W4,hW4⟩:∃W4,W4=w3.alloc (.cells (List.replicate 64 (Go.Proofs.YtfgmnbmnpihjdaaGreatDoor.u8 0)).toArray 139):=⟨_,rfl⟩
 obtain⟨g4,hg4⟩:∃g4,g4=w3.heap.size:=⟨_,rfl⟩
 have hZ4:Blk W4 g4 139 (List.replicate 64 (Go.Proofs.YtfgmnbmnpihjdaaGreatDoor.u8 0)):=by rw[hW4,hg4];exact Blk.new w3 _ _
 have m4:Mod [] w3 W4:=by rw[hW4];exact(Mod.refl [] w3).alloc _
 have c4:=cell_up0 c3 m4
 refine wpList_plain (by rfl) fun K4 hK4=>?_
 unfold Oper.wp execOp
 go_simp
 refine hK4 _ _ ?_
 refine(?_:wpList _ _ _ _ _ (w3.alloc (.cells (List.replicate 64 (Go.Proofs.YtfgmnbmnpihjdaaGreatDoor.u8 0)).toArray 139)))
 rw[←hW4,←hg4]
 refine wpList_store_mid (by rfl) 139 _ _ (by rfl) g4 0 (D.map Go.Proofs.YtfgmnbmnpihjdaaGreatDoor.u8).toArray (by rfl) (by rfl) (hZ4.there (by simp[hDl])) (by rw[List.size_toArray,List.length_map,hDl];kernel_rfl) (all_oneCell_toArray (oneCell_map Go.Proofs.YtfgmnbmnpihjdaaGreatDoor.u8 (fun _=>rfl) _)) ?_
 refine wpList_nil ?_
 obtain⟨W5,hW5⟩:∃W5,W5=W4.setCells g4 0 (D.map Go.Proofs.YtfgmnbmnpihjdaaGreatDoor.u8).toArray.toList:=⟨_,rfl⟩
 have hB5:Blk W5 g4 139 (D.map Go.Proofs.YtfgmnbmnpihjdaaGreatDoor.u8):=by rw[hW5];exact hZ4.overwrite (by simp[hDl])
 have m5:Mod [g4] W4 W5:=by rw[hW5];exact Mod.setCells _ _ (Mod.refl [g4] W4) (fun _=>by simp)
 have hlt3:w.heap.size<w3.heap.size:=block_lt_of_cell c3
 have c5:W5.cell? ⟨w.heap.size,138,none⟩=some (.int .i64 48):=cell_off c4 m5 (by simp;omega)
 rw[←hW5]
 clear hW5 hW4 hZ4 c3 c4
 have mw3:Mod [] w w3:=m2.old m3
 have mw4:Mod [] w W4:=mw3.trans m4 (by simp) (by simp)
 have mw5:Mod [] w W5:=mw4.old m5 (by have:=mw3.size;omega)
 have own5:=hown.mod mw5 (by simp)
 have cfl:=cell_up0 cfl0 mw5
 obtain⟨E,hE⟩:∃E,E=D.take 48:=⟨_,rfl⟩
 have hEl:E.length=48:=by rw[hE,List.length_take,hDl];rfl
 obtain⟨v',w',hr,hown',hgr⟩:=run_app (z:=.int .u8 0) rfl Tryz.underlying23 info_u8 (by omega) base v 0 [] W5 own5 ⟨g4,0,none⟩ 64 (E.map Go.Proofs.YtfgmnbmnpihjdaaGreatDoor.u8) 48 (by simp[hEl])
  (by
    intro j u hj
    have hjl:j<E.length:=by simpa using(List.getElem?_eq_some_iff.1 hj).1
    rw[hE,List.map_take,List.getElem?_take,if_pos (by omega)]at hj
    rw[add_addr,Nat.zero_add,hB5.cell];exact hj) (oneCell_map Go.Proofs.YtfgmnbmnpihjdaaGreatDoor.u8 (fun _=>rfl) E) (by omega) (Nat.le_trans hb mw5.size) 23
 have hsa:∀u,(Instr.sliceAt 139 (.pointer (some ⟨g4,0,none⟩)) none (some (.int .i64 48)) none).run Tryz.prog u=.ok (sl g4 0 48 64) u:=fun u=>run_arr_to Tryz.underlying139 (n:=64) (by kernel_rfl) (by kernel_rfl) (by kernel_rfl) .i64 g4 0 48 (by omega) (by omega) u
 have hm':Mod v.ownBlock.toList W5 w':=Mod.grown hgr (fun k hk _=>by rw[hk];simp)
 have hfin:Own Go.Proofs.YtfgmnbmnpihjdaaGreatDoor.u8 5 w' base v' E:=by
  show w'.ownsRow base 5 1 v' E.length (E.map Go.Proofs.YtfgmnbmnpihjdaaGreatDoor.u8)
  rw[hEl]
  simpa using hown'
 have HE:=hide hE
 clear hB5 m5 m4 mw3 mw4 CK m2 hB2 hown own5 hown' hgr hE hEl cfl0
 clear hK1 hK2 hK3 hK8 hK4 hK lh lX hb lK lM
 dsimp only[Act.put]
 apply_assumption
 clear hB HCS m3 hDl hg4 hlt3 hdw
 go_upto_region 4 with fail
 refine wp_region_lit ?_
 refine wpList_plain (by rfl) fun K10 hK10=>?_
 unfold Oper.wp execOp
 go_simp
 refine hK10 _ _ ?_
 refine wpList_plain (by rfl) fun K11 hK11=>?_
 unfold Oper.wp execOp
 go_simp
 refine hK11 _ _ ?_
 refine wpList_plain (by rfl) fun K12 hK12=>?_
 unfold Oper.wp execOp
 go_simp
 refine hK12 _ _ ?_
 refine wpList_plain (by rfl) fun K13 hK13=>?_
 unfold Oper.wp execOp
 go_simp
 refine hK13 _ _ ?_
 refine wpList_plain (by rfl) fun K14 hK14=>?_
 unfold Oper.wp execOp
 go_simp
 refine hK14 _ _ ?_
 refine wpList_plain (by rfl) fun K15 hK15=>?_
 unfold Oper.wp execOp
 go_simp
 refine hK15 _ _ ?_
 clear hK10 hK11 hK12 hK13 hK14 hK15
 refine wpl_run2 rfl _ _ _ rfl _ _ rfl rfl hr ?_
 dsimp only[Act.put]
 refine wpList_plain (by rfl) fun K7 hK7=>?_
 unfold Oper.wp execOp
 go_simp
 refine hK7 _ _ ?_
 clear hK7
 refine wpList_nil ?_
 apply_assumption
 go_wp2_with fail
 go_ret
 exact⟨v',rfl,by rw[←HD.out,←HE.out];exact hfin,mw5.then1 hm'⟩
end Go.Proofs.YtfgmnbmnpihjdaaGreatDoor
