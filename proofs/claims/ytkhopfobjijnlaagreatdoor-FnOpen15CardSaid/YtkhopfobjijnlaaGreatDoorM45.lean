/- laws.keyOf. -/
import Derived.Test.YtkhopfobjijnlaaGreatDoorM43
import Derived.Test.YtkhopfobjijnlaaGreatDoorM44
set_option linter.all false
set_option exponentiation.threshold 7000000
namespace Go.Proofs.YtkhopfobjijnlaaGreatDoor
set_option exponentiation.threshold 7000000
open Go.RowKit

theorem or_one_u32 {n : Nat} (h : n < 2147483648) : ∃ e : Nat, bits .or .u32 (n : Int) 1 = (e : Int) ∧ e % 2 = 1 ∧ e ≤ 2147483647 := by
  have h1 : (BitVec.ofInt 32 (n : Int)).toNat = n := by
    rw [BitVec.ofInt_natCast, BitVec.toNat_ofNat]; exact Nat.mod_eq_of_lt (by omega)
  have h2 : (BitVec.ofInt 32 (1 : Int)).toNat = 1 := by decide
  have h3 : (n ||| 1) < 2 ^ 31 := Nat.or_lt_two_pow (by omega) (by omega)
  refine ⟨n ||| 1, ?_, ?_, by omega⟩
  · show IntKind.u32.wrap ((BitVec.ofInt 32 (n : Int) ||| BitVec.ofInt 32 (1 : Int)).toNat : Int) = _
    rw [BitVec.toNat_or, h1, h2, IntKind.wrap_u32]
    generalize n ||| 1 = x at *
    omega
  · exact Nat.or_mod_two_eq_one.2 (Or.inr rfl)

/-- A store into a block that holds no digits leaves numbers alone. -/
theorem natV_gen {w w' : World} {v : Value} {n K T : Nat} {vs : List Value} (h : NatV w v n) (hK : Blk w K T vs) (hv : ∀ i x : Nat, vs[i]? = some (i64 x) → x = 0) (m : Mod [K] w w') : NatV w' v n := by
  obtain ⟨L, h1, h2, h3⟩ := h
  refine ⟨L, ?_, h2, h3⟩
  rcases h1 with ⟨rfl, rfl⟩ | ⟨b, o, c, rfl, hc, hb⟩
  · exact .inl ⟨rfl, rfl⟩
  · refine .inr ⟨b, o, c, rfl, hc, fun i hi => ?_⟩
    have hne : b ≠ K := by
      rintro rfl
      have h4 := hb (L.length - 1) (by omega)
      rw [hK.cell] at h4
      exact h2.top (by omega) (hv _ _ h4)
    rw [← hb i hi]
    exact World.cell?_of_block (m.block b (block_lt_of_cell (hb i hi)) (by simpa using hne))
theorem byV_gen {w w' : World} {v : Value} {B : List Nat} {K T : Nat} {vs : List Value} (h : ByV w v B) (hK : Blk w K T vs) (hv : ∀ i x : Nat, vs[i]? ≠ some (u8 x)) (m : Mod [K] w w') : ByV w' v B := by
  refine ⟨?_, h.2.1, fun b o n c e => Nat.lt_of_lt_of_le (h.2.2 b o n c e) m.size⟩
  rcases h.1 with h1 | h1 | ⟨b, o, c, rfl, hc, hb⟩
  · exact .inl h1
  · exact .inr (.inl h1)
  · refine .inr (.inr ⟨b, o, c, rfl, hc, fun i hi => ?_⟩)
    have hne : b ≠ K := by
      rintro rfl
      have h4 := hb i hi
      rw [hK.cell] at h4
      exact hv _ _ h4
    rw [← hb i hi]
    exact World.cell?_of_block (m.block b (block_lt_of_cell (hb i hi)) (by simpa using hne))
theorem KeyS.set {w w1 : World} {k K n : Nat} {v0 v1 v2 v3 v4 x : Value} (h : KeyS w k v0 v1 v2 v3 v4 w1) (hne : k ≠ K) (hK : w.heap.size ≤ K) : KeyS w k v0 v1 v2 v3 v4 (w1.setCell ⟨K, n, none⟩ x) := by
  have e : (w1.setCell ⟨K, n, none⟩ x).heap[k]? = w1.heap[k]? := Below.heap_setCell _ _ _ _ hne
  obtain ⟨h0, h1, h2, h3, h4, m⟩ := h
  exact ⟨(World.cell?_of_block e).trans h0, (World.cell?_of_block e).trans h1, (World.cell?_of_block e).trans h2, (World.cell?_of_block e).trans h3, (World.cell?_of_block e).trans h4, m.setCell _ _ (fun h => by simp at h; omega)⟩
theorem results_kof {fn : Func} {t u x p q : Nat} {tmps : Array Value} {v0 v1 v2 v3 v4 u0 u1 u2 u3 u4 : Value} {w : World} (h : fn.results = #[.cell t 27, .cell u 29, .tmp x]) (hp : tmps.getD t undef = .pointer (some ⟨p, 0, none⟩)) (hq : tmps.getD u undef = .pointer (some ⟨q, 0, none⟩))
    (h0 : w.cell? ⟨p, 0, none⟩ = some v0) (h1 : w.cell? ⟨p, 1, none⟩ = some v1) (h2 : w.cell? ⟨p, 2, none⟩ = some v2) (h3 : w.cell? ⟨p, 3, none⟩ = some v3) (h4 : w.cell? ⟨p, 4, none⟩ = some v4)
    (g0 : w.cell? ⟨q, 0, none⟩ = some u0) (g1 : w.cell? ⟨q, 1, none⟩ = some u1) (g2 : w.cell? ⟨q, 2, none⟩ = some u2) (g3 : w.cell? ⟨q, 3, none⟩ = some u3) (g4 : w.cell? ⟨q, 4, none⟩ = some u4) :
    (results fn tmps).run Tryz.prog w = .ok (.tuple #[.agg #[v0, v1, v2, v3, v4], .agg #[u0, u1, u2, u3, u4], tmps.getD x undef]) w := by
  have hl : (loadVar 27 ⟨p, 0, none⟩).run Tryz.prog w = .ok (.agg #[v0, v1, v2, v3, v4]) w := by go_simp
  have hl2 : (loadVar 29 ⟨q, 0, none⟩).run Tryz.prog w = .ok (.agg #[u0, u1, u2, u3, u4]) w := by go_simp
  have hp2 : tmps[t]?.getD undef = .pointer (some ⟨p, 0, none⟩) := by simpa using hp
  have hq2 : tmps[u]?.getD undef = .pointer (some ⟨q, 0, none⟩) := by simpa using hq
  simp [results, h, hp2, hq2, asAddr, hl, hl2]

set_option maxRecDepth 100000 in
set_option maxHeartbeats 8000000 in
theorem c_keyOf (pb qb eb : Nat) (w : World) (hp : pb < 256) (hq : qb < 256) (he : eb < 4294967296) :
    Calls Tryz.prog 4 #[.int .u8 pb, .int .u8 qb, .int .u32 eb] w fun r w' => Mod [] w w' ∧ ∃ e vN vD vP vQ E N D P Q ok uN uD uP uQ BN BD BP BQ, e ≤ 2147483647 ∧ e % 2 = 1 ∧ r = .returned (.tuple #[.agg #[vN, vD, vP, vQ, .int .i64 E], .agg #[uN, .int .i64 E, uD, uP, uQ], .bool ok]) ∧ KeyV w' vN vD vP vQ E N D P Q ∧ (ok = true → KeyOk (pb % 10) (qb % 10) e E N D P Q) ∧
      (ByV w' uN BN ∧ BN.length = (blen N + 7) / 8 ∧ bval BN = N) ∧ (ByV w' uD BD ∧ BD.length = (blen D + 7) / 8 ∧ bval BD = D) ∧ (ByV w' uP BP ∧ BP.length = (blen P + 7) / 8 ∧ bval BP = P) ∧ (ByV w' uQ BQ ∧ BQ.length = (blen Q + 7) / 8 ∧ bval BQ = Q) := by
  obtain ⟨i, hi⟩ : ∃ i, i = pb % 10 := ⟨_, rfl⟩
  obtain ⟨j, hj⟩ : ∃ j, j = qb % 10 := ⟨_, rfl⟩
  obtain ⟨m, hm⟩ : ∃ m, m = eb % 2147483648 := ⟨_, rfl⟩
  obtain ⟨e, h1, h2, h3⟩ := or_one_u32 (n := m) (by omega)
  have ei : (pb : Int).tmod 10 = (i : Int) := by rw [Int.tmod_eq_emod_of_nonneg (by omega), hi]; rfl
  have ej : (qb : Int).tmod 10 = (j : Int) := by rw [Int.tmod_eq_emod_of_nonneg (by omega), hj]; rfl
  have emm : (eb : Int).tmod 2147483648 = (m : Int) := by rw [Int.tmod_eq_emod_of_nonneg (by omega), hm]; rfl
  have di : (pb : Int) % 10 = (i : Int) := by rw [hi]; rfl
  have dj : (qb : Int) % 10 = (j : Int) := by rw [hj]; rfl
  have dm : (eb : Int) % 2147483648 = (m : Int) := by rw [hm]; rfl
  have we : IntKind.i64.wrap (e : Int) = (e : Int) := IntWalk.i64_in _ (by omega)
  have wp : IntKind.i64.wrap (pb : Int) = (pb : Int) := IntWalk.i64_in _ (by omega)
  have wq : IntKind.i64.wrap (qb : Int) = (qb : Int) := IntWalk.i64_in _ (by omega)
  have i10 : i < 10 := by omega
  have j10 : j < 10 := by omega
  have C1 := hide (fun w' => c_Private i j e w' i10 j10 h2 h3)
  have H2 := hide h2
  have H3 := hide h3
  rw [← hi, ← hj]
  have m0 : Mod [] w ((w.alloc (.cells #[.slice none 0 0, .slice none 0 0, .slice none 0 0, .slice none 0 0, .int .i64 0] 27)).alloc (.cells #[.slice none 0 0, .int .i64 0, .slice none 0 0, .slice none 0 0, .slice none 0 0] 29)) := ((Mod.refl [] w).alloc _).alloc _
  have hK1 := (Blk.new w 27 [.slice none 0 0, .slice none 0 0, .slice none 0 0, .slice none 0 0, .int .i64 0]).alloc (.cells #[.slice none 0 0, .int .i64 0, .slice none 0 0, .slice none 0 0, .slice none 0 0] 29)
  have hK2 := Blk.new (w.alloc (.cells #[.slice none 0 0, .slice none 0 0, .slice none 0 0, .slice none 0 0, .int .i64 0] 27)) 29 [.slice none 0 0, .int .i64 0, .slice none 0 0, .slice none 0 0, .slice none 0 0]
  rw [World.size_alloc] at hK2
  clear hi hj hm hp hq he h2 h3 i10 j10
  go_enter Tryz.func4, Tryz.ntmps4
  go_wp2_with fail
  refine (c_Primes _).mono ?_
  rintro r w1 ⟨g, vs, rfl, m1, hg, -, -⟩
  have m01 := m0.then m1
  replace hK1 := blk_up hK1 m1
  replace hK2 := blk_up hK2 m1
  clear hg m0 m1
  go_upto_region 2 with fail
  go_cut [10, 11] from 15 to 29 (fun a10 a11 wx => ∃ K aN kN cN aD kD cD aP kP cP aQ kQ cQ E N D P Q ok, a10 = ptr K ∧ a11 = .bool ok ∧ Mod [] w wx ∧ Blk wx K 27 [.slice aN kN cN, .slice aD kD cD, .slice aP kP cP, .slice aQ kQ cQ, .int .i64 E] ∧ K ≠ w.heap.size ∧ Blk wx w.heap.size 27 [.slice none 0 0, .slice none 0 0, .slice none 0 0, .slice none 0 0, .int .i64 0] ∧ Blk wx (w.heap.size + 1) 29 [.slice none 0 0, .int .i64 0, .slice none 0 0, .slice none 0 0, .slice none 0 0] ∧ KeyV wx (.slice aN kN cN) (.slice aD kD cD) (.slice aP kP cP) (.slice aQ kQ cQ) E N D P Q ∧ (ok = true → KeyOk i j e E N D P Q))
  case first =>
    go_region_with ((go_at_call 12; refine (C1.out _).mono ?_; rintro r w2 ⟨m2, vN, vD, vP, vQ, E, N, D, P, Q, ok, rfl, hV, hok⟩; have m12 : Mod [] w1 w2 := (by first | exact m2.ofDrew | exact (((Mod.refl [] w1).alloc _).drew).then m2 | exact (((Mod.refl [] w1).drew).alloc _).then m2); have p1 := True.intro; (first | (have p1 := Blk.mod (Blk.new w1 27 [.slice none 0 0, .slice none 0 0, .slice none 0 0, .slice none 0 0, .int .i64 0]) (Mod.ofDrew m2) (by simp)) | (have p1 := Blk.mod (Blk.new w1 27 [.slice none 0 0, .slice none 0 0, .slice none 0 0, .slice none 0 0, .int .i64 0]) m2 (by simp)) | skip); (first | (have p10 := p1.cell 0; have p11 := p1.cell 1; have p12 := p1.cell 2; have p13 := p1.cell 3; have p14 := p1.cell 4; have q10 := p1.frozen 0; have q11 := p1.frozen 1; have q12 := p1.frozen 2; have q13 := p1.frozen 3; have q14 := p1.frozen 4; simp only [List.getElem?_cons_zero, List.getElem?_cons_succ] at p10 p11 p12 p13 p14) | skip); obtain ⟨aN, kN, cN, rfl⟩ := hV.n.lit; obtain ⟨aD, kD, cD, rfl⟩ := hV.d.lit; obtain ⟨aP, kP, cP, rfl⟩ := hV.p.lit; obtain ⟨aQ, kQ, cQ, rfl⟩ := hV.q.lit; have HV := hide hV; have HOK := hide hok; clear hV hok))
    all_goals go_wp2_with fail
    all_goals go_meet
    all_goals have l1 := hK1.lt
    all_goals have l2 := hK2.lt
    all_goals have l3 := m12.size
    all_goals have k1 := blk_up hK1 m12
    all_goals have k2 := blk_up hK2 m12
    all_goals first
      | (have mS : Mod [] w (w2.alloc (.cells #[.slice aN kN cN, .slice aD kD cD, .slice aP kP cP, .slice aQ kQ cQ, .int .i64 E] 27)) := (m01.then m12).alloc _
         exact ⟨w2.heap.size, aN, kN, cN, aD, kD, cD, aP, kP, cP, aQ, kQ, cQ, E, N, D, P, Q, ok, rfl, rfl, mS, Blk.new w2 _ [.slice aN kN cN, .slice aD kD cD, .slice aP kP cP, .slice aQ kQ cQ, .int .i64 E], by omega, k1.alloc _, k2.alloc _, HV.out.mod ((Mod.refl [] w2).alloc _), HOK.out⟩)
      | (have mS : Mod [] w (((((w2.setCell ⟨w1.heap.size, 0, none⟩ (.slice aN kN cN)).setCell ⟨w1.heap.size, 1, none⟩ (.slice aD kD cD)).setCell ⟨w1.heap.size, 2, none⟩ (.slice aP kP cP)).setCell ⟨w1.heap.size, 3, none⟩ (.slice aQ kQ cQ)).setCell ⟨w1.heap.size, 4, none⟩ (.int .i64 E)) := (Mod.setCell (Mod.setCell (Mod.setCell (Mod.setCell (Mod.setCell (m01.then m12) _ _ (fun h => absurd h (by simp; omega))) _ _ (fun h => absurd h (by simp; omega))) _ _ (fun h => absurd h (by simp; omega))) _ _ (fun h => absurd h (by simp; omega))) _ _ (fun h => absurd h (by simp; omega)))
         have mX : Mod [w1.heap.size] w2 (((((w2.setCell ⟨w1.heap.size, 0, none⟩ (.slice aN kN cN)).setCell ⟨w1.heap.size, 1, none⟩ (.slice aD kD cD)).setCell ⟨w1.heap.size, 2, none⟩ (.slice aP kP cP)).setCell ⟨w1.heap.size, 3, none⟩ (.slice aQ kQ cQ)).setCell ⟨w1.heap.size, 4, none⟩ (.int .i64 E)) := (Mod.setCell (Mod.setCell (Mod.setCell (Mod.setCell (Mod.setCell (Mod.refl [w1.heap.size] w2) _ _ (by simp)) _ _ (by simp)) _ _ (by simp)) _ _ (by simp)) _ _ (by simp))
         exact ⟨w1.heap.size, aN, kN, cN, aD, kD, cD, aP, kP, cP, aQ, kQ, cQ, E, N, D, P, Q, ok, rfl, rfl, mS, (Blk.setCell (Blk.setCell (Blk.setCell (Blk.setCell (Blk.setCell p1 0 (.slice aN kN cN)) 1 (.slice aD kD cD)) 2 (.slice aP kP cP)) 3 (.slice aQ kQ cQ)) 4 (.int .i64 E)), by omega, (Blk.setCell_other (Blk.setCell_other (Blk.setCell_other (Blk.setCell_other (Blk.setCell_other k1 ⟨w1.heap.size, 0, none⟩ (.slice aN kN cN) (by simp; omega)) ⟨w1.heap.size, 1, none⟩ (.slice aD kD cD) (by simp; omega)) ⟨w1.heap.size, 2, none⟩ (.slice aP kP cP) (by simp; omega)) ⟨w1.heap.size, 3, none⟩ (.slice aQ kQ cQ) (by simp; omega)) ⟨w1.heap.size, 4, none⟩ (.int .i64 E) (by simp; omega)), (Blk.setCell_other (Blk.setCell_other (Blk.setCell_other (Blk.setCell_other (Blk.setCell_other k2 ⟨w1.heap.size, 0, none⟩ (.slice aN kN cN) (by simp; omega)) ⟨w1.heap.size, 1, none⟩ (.slice aD kD cD) (by simp; omega)) ⟨w1.heap.size, 2, none⟩ (.slice aP kP cP) (by simp; omega)) ⟨w1.heap.size, 3, none⟩ (.slice aQ kQ cQ) (by simp; omega)) ⟨w1.heap.size, 4, none⟩ (.int .i64 E) (by simp; omega)), ⟨natV_key HV.out.n p1 mX, natV_key HV.out.d p1 mX, natV_key HV.out.p p1 mX, natV_key HV.out.q p1 mX, HV.out.bN, HV.out.bD, HV.out.bP, HV.out.bQ⟩, HOK.out⟩)
  case rest =>
    obtain ⟨K, aN, kN, cN, aD, kD, cD, aP, kP, cP, aQ, kQ, cQ, E, N, D, P, Q, ok, rfl, rfl, mc, hB, hne, hK1c, hK2c, hV, hok⟩ := hcut
    obtain ⟨W, rfl⟩ : ∃ W : World, W = wc := ⟨_, rfl⟩
    have c0 : W.cell? ⟨K, 0, none⟩ = some (.slice aN kN cN) := by rw [hB.cell]; rfl
    have c1 : W.cell? ⟨K, 1, none⟩ = some (.slice aD kD cD) := by rw [hB.cell]; rfl
    have c2 : W.cell? ⟨K, 2, none⟩ = some (.slice aP kP cP) := by rw [hB.cell]; rfl
    have c3 : W.cell? ⟨K, 3, none⟩ = some (.slice aQ kQ cQ) := by rw [hB.cell]; rfl
    have c4 : W.cell? ⟨K, 4, none⟩ = some (.int .i64 E) := by rw [hB.cell]; rfl
    have HOK := hide hok
    have HV := hide hV
    clear hK1 hK2 m01 hok C1 ei ej emm di dj dm we wp wq h1
    go_wp2_with fail
    have hne2 : K ≠ w.heap.size + 1 := hB.ne hK2c (by decide)
    have hS0 : Hid (KeyS w K (.slice aN kN cN) (.slice aD kD cD) (.slice aP kP cP) (.slice aQ kQ cQ) (.int .i64 E) W) := hide ⟨c0, c1, c2, c3, c4, mc⟩
    clear c0 c1 c2 c3 c4 hB hV
    go_region_held3 (fun w' => w'.cell? ⟨K, 0, none⟩ = some (.slice aN kN cN) ∧ w'.cell? ⟨K, 1, none⟩ = some (.slice aD kD cD) ∧ w'.cell? ⟨K, 2, none⟩ = some (.slice aP kP cP) ∧ w'.cell? ⟨K, 3, none⟩ = some (.slice aQ kQ cQ) ∧ w'.cell? ⟨K, 4, none⟩ = some (.int .i64 E) ∧ Mod [] w w')
      ((show KeyS w K (.slice aN kN cN) (.slice aD kD cD) (.slice aP kP cP) (.slice aQ kQ cQ) (.int .i64 E) _; (repeat (first | with_reducible exact hS4.out | with_reducible exact hS3.out | with_reducible exact hS2.out | with_reducible exact hS1.out | with_reducible exact hS0.out | ((with_reducible refine KeyS.set ?_ ?_ ?_); rotate_left; (focus omega); (focus omega)) | with_reducible refine KeyS.up ?_ ((Mod.refl [] _).drew))); done))
      (first | (go_at_call_of 13 (Value.slice aN kN cN); refine (c_plain _ _ _ (HV.out.n.mod ((Mod.refl [] W).drew)) HV.out.bN).mono ?_; rintro r x1 ⟨uN, BN, rfl, mm, yN, lN, eN⟩; have M1 : Mod [] W x1 := mm.ofDrew; have hS1 := hide (hS0.out.up M1); obtain ⟨sN, tN, rfl⟩ := SliceB.isSlice yN.1; have LN := hide lN; have VN := hide eN; clear lN eN; clear mm) | (go_at_call_of 13 (Value.slice aD kD cD); refine (c_plain _ _ _ (HV.out.d.mod (M1)) HV.out.bD).mono ?_; rintro r x2 ⟨uD, BD, rfl, mm, yD, lD, eD⟩; have M2 : Mod [] W x2 := M1.then mm; have hS2 := hide (hS0.out.up M2); obtain ⟨sD, tD, rfl⟩ := SliceB.isSlice yD.1; have LD := hide lD; have VD := hide eD; clear lD eD; replace yN := yN.mod mm; clear mm) | (go_at_call_of 13 (Value.slice aP kP cP); refine (c_plain _ _ _ (HV.out.p.mod (M2)) HV.out.bP).mono ?_; rintro r x3 ⟨uP, BP, rfl, mm, yP, lP, eP⟩; have M3 : Mod [] W x3 := M2.then mm; have hS3 := hide (hS0.out.up M3); obtain ⟨sP, tP, rfl⟩ := SliceB.isSlice yP.1; have LP := hide lP; have VP := hide eP; clear lP eP; replace yN := yN.mod mm; replace yD := yD.mod mm; clear mm) | (go_at_call_of 13 (Value.slice aQ kQ cQ); refine (c_plain _ _ _ (HV.out.q.mod (M3)) HV.out.bQ).mono ?_; rintro r x4 ⟨uQ, BQ, rfl, mm, yQ, lQ, eQ⟩; have M4 : Mod [] W x4 := M3.then mm; have hS4 := hide (hS0.out.up M4); obtain ⟨sQ, tQ, rfl⟩ := SliceB.isSlice yQ.1; have LQ := hide lQ; have VQ := hide eQ; clear lQ eQ; replace yN := yN.mod mm; replace yD := yD.mod mm; replace yP := yP.mod mm; clear mm; have hK1x := blk_up hK1c M4; have hK2x := blk_up hK2c M4; have f0 := hK1x.frozen 0; have g0 := hK2x.frozen 0; have f1 := hK1x.frozen 1; have g1 := hK2x.frozen 1; have f2 := hK1x.frozen 2; have g2 := hK2x.frozen 2; have f3 := hK1x.frozen 3; have g3 := hK2x.frozen 3; have f4 := hK1x.frozen 4; have g4 := hK2x.frozen 4; have d0 : x4.cell? ⟨w.heap.size, 0, none⟩ = some (.slice none 0 0) := (by rw [hK1x.cell]; rfl); have d1 : x4.cell? ⟨w.heap.size, 1, none⟩ = some (.slice none 0 0) := (by rw [hK1x.cell]; rfl); have d2 : x4.cell? ⟨w.heap.size, 2, none⟩ = some (.slice none 0 0) := (by rw [hK1x.cell]; rfl); have d3 : x4.cell? ⟨w.heap.size, 3, none⟩ = some (.slice none 0 0) := (by rw [hK1x.cell]; rfl); have d4 : x4.cell? ⟨w.heap.size, 4, none⟩ = some (.int .i64 0) := (by rw [hK1x.cell]; rfl); have b0 : x4.cell? ⟨w.heap.size + 1, 0, none⟩ = some (.slice none 0 0) := (by rw [hK2x.cell]; rfl); have b1 : x4.cell? ⟨w.heap.size + 1, 1, none⟩ = some (.int .i64 0) := (by rw [hK2x.cell]; rfl); have b2 : x4.cell? ⟨w.heap.size + 1, 2, none⟩ = some (.slice none 0 0) := (by rw [hK2x.cell]; rfl); have b3 : x4.cell? ⟨w.heap.size + 1, 3, none⟩ = some (.slice none 0 0) := (by rw [hK2x.cell]; rfl); have b4 : x4.cell? ⟨w.heap.size + 1, 4, none⟩ = some (.slice none 0 0) := (by rw [hK2x.cell]; rfl)))
    go_wp2_with fail
    obtain ⟨W5, hW5⟩ : ∃ W, W = (((((x4.setCell ⟨w.heap.size, 0, none⟩ (.slice aN kN cN)).setCell ⟨w.heap.size, 1, none⟩ (.slice aD kD cD)).setCell ⟨w.heap.size, 2, none⟩ (.slice aP kP cP)).setCell ⟨w.heap.size, 3, none⟩ (.slice aQ kQ cQ)).setCell ⟨w.heap.size, 4, none⟩ (.int .i64 E)) := ⟨_, rfl⟩
    have hb1 : Blk W5 w.heap.size 27 [.slice aN kN cN, .slice aD kD cD, .slice aP kP cP, .slice aQ kQ cQ, .int .i64 E] := by rw [hW5]; exact (Blk.setCell (Blk.setCell (Blk.setCell (Blk.setCell (Blk.setCell hK1x 0 (.slice aN kN cN)) 1 (.slice aD kD cD)) 2 (.slice aP kP cP)) 3 (.slice aQ kQ cQ)) 4 (.int .i64 E))
    have hb2 : Blk W5 (w.heap.size + 1) 29 [.slice none 0 0, .int .i64 0, .slice none 0 0, .slice none 0 0, .slice none 0 0] := by rw [hW5]; exact (Blk.setCell_other (Blk.setCell_other (Blk.setCell_other (Blk.setCell_other (Blk.setCell_other hK2x ⟨w.heap.size, 0, none⟩ (.slice aN kN cN) (by simp)) ⟨w.heap.size, 1, none⟩ (.slice aD kD cD) (by simp)) ⟨w.heap.size, 2, none⟩ (.slice aP kP cP) (by simp)) ⟨w.heap.size, 3, none⟩ (.slice aQ kQ cQ) (by simp)) ⟨w.heap.size, 4, none⟩ (.int .i64 E) (by simp))
    have m5 : Mod [w.heap.size] x4 W5 := by rw [hW5]; exact (Mod.setCell (Mod.setCell (Mod.setCell (Mod.setCell (Mod.setCell (Mod.refl [w.heap.size] x4) _ _ (by simp)) _ _ (by simp)) _ _ (by simp)) _ _ (by simp)) _ _ (by simp))
    have mm5 : Mod [] w W5 := by rw [hW5]; exact (Mod.setCell (Mod.setCell (Mod.setCell (Mod.setCell (Mod.setCell (mc.then M4) _ _ (fun h => absurd h (by simp))) _ _ (fun h => absurd h (by simp))) _ _ (fun h => absurd h (by simp))) _ _ (fun h => absurd h (by simp))) _ _ (fun h => absurd h (by simp)))
    rw [← hW5]
    obtain ⟨W10, hW10⟩ : ∃ W, W = (((((W5.setCell ⟨w.heap.size + 1, 0, none⟩ (.slice sN BN.length tN)).setCell ⟨w.heap.size + 1, 1, none⟩ (.int .i64 E)).setCell ⟨w.heap.size + 1, 2, none⟩ (.slice sD BD.length tD)).setCell ⟨w.heap.size + 1, 3, none⟩ (.slice sP BP.length tP)).setCell ⟨w.heap.size + 1, 4, none⟩ (.slice sQ BQ.length tQ)) := ⟨_, rfl⟩
    have he1 : Blk W10 w.heap.size 27 [.slice aN kN cN, .slice aD kD cD, .slice aP kP cP, .slice aQ kQ cQ, .int .i64 E] := by rw [hW10]; exact (Blk.setCell_other (Blk.setCell_other (Blk.setCell_other (Blk.setCell_other (Blk.setCell_other hb1 ⟨w.heap.size + 1, 0, none⟩ (.slice sN BN.length tN) (by simp)) ⟨w.heap.size + 1, 1, none⟩ (.int .i64 E) (by simp)) ⟨w.heap.size + 1, 2, none⟩ (.slice sD BD.length tD) (by simp)) ⟨w.heap.size + 1, 3, none⟩ (.slice sP BP.length tP) (by simp)) ⟨w.heap.size + 1, 4, none⟩ (.slice sQ BQ.length tQ) (by simp))
    have he2 : Blk W10 (w.heap.size + 1) 29 [.slice sN BN.length tN, .int .i64 E, .slice sD BD.length tD, .slice sP BP.length tP, .slice sQ BQ.length tQ] := by rw [hW10]; exact (Blk.setCell (Blk.setCell (Blk.setCell (Blk.setCell (Blk.setCell hb2 0 (.slice sN BN.length tN)) 1 (.int .i64 E)) 2 (.slice sD BD.length tD)) 3 (.slice sP BP.length tP)) 4 (.slice sQ BQ.length tQ))
    have m10 : Mod [w.heap.size + 1] W5 W10 := by rw [hW10]; exact (Mod.setCell (Mod.setCell (Mod.setCell (Mod.setCell (Mod.setCell (Mod.refl [w.heap.size + 1] W5) _ _ (by simp)) _ _ (by simp)) _ _ (by simp)) _ _ (by simp)) _ _ (by simp))
    have mm10 : Mod [] w W10 := by rw [hW10]; exact (Mod.setCell (Mod.setCell (Mod.setCell (Mod.setCell (Mod.setCell mm5 _ _ (fun h => absurd h (by simp))) _ _ (fun h => absurd h (by simp))) _ _ (fun h => absurd h (by simp))) _ _ (fun h => absurd h (by simp))) _ _ (fun h => absurd h (by simp)))
    rw [← hW10]
    have n1 : ∀ v n, NatV x4 v n → NatV W10 v n := fun v n h => natV_gen (natV_key h hK1x m5) hb2 (by intro i x h; rcases i with _ | _ | _ | _ | _ | i <;> simp at h <;> omega) m10
    have y1 : ∀ v B, ByV x4 v B → ByV W10 v B := fun v B h => byV_gen (byV_gen h hK1x (by intro i x h; rcases i with _ | _ | _ | _ | _ | i <;> simp at h) m5) hb2 (by intro i x h; rcases i with _ | _ | _ | _ | _ | i <;> simp at h) m10
    refine bodyPost_ret (results_kof rfl rfl rfl (by rw [he1.cell]; rfl) (by rw [he1.cell]; rfl) (by rw [he1.cell]; rfl) (by rw [he1.cell]; rfl) (by rw [he1.cell]; rfl) (by rw [he2.cell]; rfl) (by rw [he2.cell]; rfl) (by rw [he2.cell]; rfl) (by rw [he2.cell]; rfl) (by rw [he2.cell]; rfl)) rfl ?_
    have V4 := HV.out.mod M4
    exact ⟨mm10, e, _, _, _, _, E, N, D, P, Q, ok, _, _, _, _, BN, BD, BP, BQ, H3.out, H2.out, rfl, ⟨n1 _ _ V4.n, n1 _ _ V4.d, n1 _ _ V4.p, n1 _ _ V4.q, V4.bN, V4.bD, V4.bP, V4.bQ⟩, HOK.out, ⟨y1 _ _ yN, LN.out, VN.out⟩, ⟨y1 _ _ yD, LD.out, VD.out⟩, ⟨y1 _ _ yP, LP.out, VP.out⟩, ⟨y1 _ _ yQ, LQ.out, VQ.out⟩⟩
end Go.Proofs.YtkhopfobjijnlaaGreatDoor
