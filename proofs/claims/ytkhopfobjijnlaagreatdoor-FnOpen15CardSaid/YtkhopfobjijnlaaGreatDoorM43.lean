/- spec.Private. rsa's NewPrivateKey. Printed by wip/mk/newk.py. -/
import Derived.Test.YtkhopfobjijnlaaGreatDoorM38
import Derived.Test.YtkhopfobjijnlaaGreatDoorM41
import Derived.Test.YtkhopfobjijnlaaGreatDoorM42
import Derived.Deep.RegionHeld3
import Derived.Test.YtkhopfobjijnlaaGreatDoorM37
set_option linter.all false
set_option exponentiation.threshold 7000000
namespace Go.Proofs.YtkhopfobjijnlaaGreatDoor
set_option exponentiation.threshold 7000000
open Go.RowKit

/-- What keyOf hands on. -/
structure KeyV (w : World) (vN vD vP vQ : Value) (E : Int) (N D P Q : Nat) : Prop where
  n : NatV w vN N
  d : NatV w vD D
  p : NatV w vP P
  q : NatV w vQ Q
  bN : blen N ≤ 4000
  bD : blen D ≤ 4000
  bP : blen P ≤ 4000
  bQ : blen Q ≤ 4000
theorem KeyV.mod {w w' : World} {vN vD vP vQ : Value} {E : Int} {N D P Q : Nat} (h : KeyV w vN vD vP vQ E N D P Q) (m : Mod [] w w') : KeyV w' vN vD vP vQ E N D P Q :=
  { h with n := h.n.mod m, d := h.d.mod m, p := h.p.mod m, q := h.q.mod m }
/-- What is known of a key that is one. -/
def KeyOk (i j e : Nat) (E : Int) (N D P Q : Nat) : Prop := i ≠ j ∧ 3 ≤ e ∧ E = e ∧ N = nth prs i * nth prs j ∧ P = nth prs i ∧ Q = nth prs j ∧ D < leastV (nth prs i) (nth prs j) ∧ e * D % leastV (nth prs i) (nth prs j) = 1

theorem pair_facts {i j : Nat} (hi : i < 10) (hj : j < 10) (hij : i ≠ j) : 2147483648 ≤ leastV (nth prs i) (nth prs j) ∧ leastV (nth prs i) (nth prs j) + leastV (nth prs i) (nth prs j) + 2 < lim ∧ blen (nth prs i * nth prs j) ≤ 4000 ∧ Nat.gcd (nth prs i - 1) (nth prs j - 1) ≠ 0 ∧ (nth prs i - 1) * (nth prs j - 1) < lim ∧ (∀ d, d < leastV (nth prs i) (nth prs j) → blen d ≤ 4000) := by
  obtain ⟨hne, hlong, hnear⟩ := prs_pairs i hi j hj hij
  obtain ⟨p1, p2, p3⟩ := prs_ok _ (nth_prs hi)
  obtain ⟨q1, q2, q3⟩ := prs_ok _ (nth_prs hj)
  generalize nth prs i = p at *
  generalize nth prs j = q at *
  have hle := leastV_le p q
  have h190 : 2147483648 ≤ 2 ^ 190 := by decide +kernel
  have h31 : 2147483648 ≤ 2 ^ (Nat.log2 (p * q) / 2 + 40) := by
    have : 2 ^ 31 ≤ 2 ^ (Nat.log2 (p * q) / 2 + 40) := Nat.pow_le_pow_right (by omega) (by omega)
    omega
  have hpq : p * q < 2 ^ 1214 := by
    rw [show (1214 : Nat) = 607 + 607 by rfl, Nat.pow_add]
    exact Nat.mul_lt_mul'' p2 q2
  have hpq2 : (p - 1) * (q - 1) ≤ p * q := Nat.mul_le_mul (by omega) (by omega)
  have hl : 2 ^ 1214 + 2 ^ 1214 + 2 < lim := by
    have h1 : 2 ^ 1214 + 2 ^ 1214 + 2 < 2 ^ 320000 := by
      have a1 : 2 ^ 1214 * 2 = 2 ^ 1215 := (Nat.pow_succ 2 1214).symm
      have a2 : 2 ^ 1215 * 2 = 2 ^ 1216 := (Nat.pow_succ 2 1215).symm
      have a3 : 2 ^ 1216 < 2 ^ 320000 := Nat.pow_lt_pow_right (by omega) (by omega)
      have a4 : 2 ^ 1 ≤ 2 ^ 1214 := Nat.pow_le_pow_right (by omega) (by omega)
      generalize 2 ^ 320000 = X at *
      omega
    rw [lim_eq, show (65536 : Nat) = 2 ^ 16 by rfl, ← Nat.pow_mul]
    exact h1
  have hb : ∀ x, x < 2 ^ 1214 → blen x ≤ 4000 := fun x h => Nat.le_trans (blen_le h) (by omega)
  generalize 2 ^ 1214 = Y at *
  have hL : leastV p q < Y := Nat.lt_of_le_of_lt hle (Nat.lt_of_le_of_lt hpq2 hpq)
  have hM : (p - 1) * (q - 1) < Y := Nat.lt_of_le_of_lt hpq2 hpq
  refine ⟨Nat.le_trans h31 hlong, ?_, hb _ hpq, ?_, ?_, fun d h => hb d (Nat.lt_trans h hL)⟩
  · generalize leastV p q = l at *
    omega
  · exact Nat.ne_of_gt (Nat.gcd_pos_of_pos_left _ (by omega))
  · generalize (p - 1) * (q - 1) = m at *
    omega

theorem natV_nil (w : World) : NatV w (.slice none 0 0) 0 := ⟨[], .inl ⟨rfl, rfl⟩, by constructor <;> simp [nth, Digits], rfl⟩
theorem results_key {fn : Func} {t u p : Nat} {tmps : Array Value} {v0 v1 v2 v3 v4 x : Value} {w : World} (h : fn.results = #[.cell t 27, .tmp u]) (hp : tmps.getD t undef = .pointer (some ⟨p, 0, none⟩)) (hx : tmps.getD u undef = x)
    (h0 : w.cell? ⟨p, 0, none⟩ = some v0) (h1 : w.cell? ⟨p, 1, none⟩ = some v1) (h2 : w.cell? ⟨p, 2, none⟩ = some v2) (h3 : w.cell? ⟨p, 3, none⟩ = some v3) (h4 : w.cell? ⟨p, 4, none⟩ = some v4) :
    (results fn tmps).run Tryz.prog w = .ok (.tuple #[.agg #[v0, v1, v2, v3, v4], x]) w := by
  have hl : (loadVar 27 ⟨p, 0, none⟩).run Tryz.prog w = .ok (.agg #[v0, v1, v2, v3, v4]) w := by go_simp
  have hp2 : tmps[t]?.getD undef = .pointer (some ⟨p, 0, none⟩) := by simpa using hp
  have hx2 : tmps[u]?.getD undef = x := by simpa using hx
  simp [results, h, hp2, hx2, asAddr, hl]

/-- A store into a key's block leaves numbers alone. -/
theorem natV_key {w w' : World} {v : Value} {n K : Nat} (h : NatV w v n) (hK : Blk w K 27 [.slice none 0 0, .slice none 0 0, .slice none 0 0, .slice none 0 0, .int .i64 0]) (m : Mod [K] w w') : NatV w' v n := by
  obtain ⟨L, h1, h2, h3⟩ := h
  refine ⟨L, ?_, h2, h3⟩
  rcases h1 with ⟨rfl, rfl⟩ | ⟨b, o, c, rfl, hc, hb⟩
  · exact .inl ⟨rfl, rfl⟩
  · refine .inr ⟨b, o, c, rfl, hc, fun i hi => ?_⟩
    have hne : b ≠ K := by
      rintro rfl
      have h4 := hb (L.length - 1) (by omega)
      have h5 := h2.top (by omega)
      rw [hK.cell] at h4
      generalize hx : nth L (L.length - 1) = x at *
      rcases (by omega : o + (L.length - 1) = 0 ∨ o + (L.length - 1) = 1 ∨ o + (L.length - 1) = 2 ∨ o + (L.length - 1) = 3 ∨ o + (L.length - 1) = 4 ∨ 5 ≤ o + (L.length - 1)) with e | e | e | e | e | e
      · rw [e] at h4; simp at h4
      · rw [e] at h4; simp at h4
      · rw [e] at h4; simp at h4
      · rw [e] at h4; simp at h4
      · rw [e] at h4; simp at h4; omega
      · rw [List.getElem?_eq_none (by simpa using e)] at h4; cases h4
    rw [← hb i hi]
    exact World.cell?_of_block (m.block b (block_lt_of_cell (hb i hi)) (by simpa using hne))
/-- What the drawn regions of Private hold on to. -/
def GS (w : World) (g i j : Nat) (v u : Value) (w' : World) : Prop := w'.cell? ⟨g, i, none⟩ = some v ∧ w'.cell? ⟨g, j, none⟩ = some u ∧ Mod [] w w'
theorem GS.up {w w1 w2 : World} {g i j : Nat} {v u : Value} (h : GS w g i j v u w1) (m : Mod [] w1 w2) : GS w g i j v u w2 := ⟨cell_up h.1 m, cell_up h.2.1 m, h.2.2.then m⟩
theorem GS.set {w w1 : World} {g i j K n : Nat} {v u x : Value} (h : GS w g i j v u w1) (hne : g ≠ K) (hK : w.heap.size ≤ K) : GS w g i j v u (w1.setCell ⟨K, n, none⟩ x) := by
  have e : (w1.setCell ⟨K, n, none⟩ x).heap[g]? = w1.heap[g]? := Below.heap_setCell _ _ _ _ hne
  exact ⟨(World.cell?_of_block e).trans h.1, (World.cell?_of_block e).trans h.2.1, h.2.2.setCell _ _ (fun h => by simp at h; omega)⟩

set_option maxRecDepth 100000 in
set_option maxHeartbeats 8000000 in
theorem c_Private (i j e : Nat) (w : World) (hi : i < 10) (hj : j < 10) (he : e % 2 = 1) (hb : e ≤ 2147483647) :
    Calls Tryz.prog 12 #[i64 i, i64 j, i64 e] w fun r w' => Mod [] w w' ∧ ∃ vN vD vP vQ E N D P Q ok, r = .returned (.tuple #[.agg #[vN, vD, vP, vQ, .int .i64 E], .bool ok]) ∧ KeyV w' vN vD vP vQ E N D P Q ∧ (ok = true → KeyOk i j e E N D P Q) := by
  have hK := Blk.new w 27 [.slice none 0 0, .slice none 0 0, .slice none 0 0, .slice none 0 0, .int .i64 0]
  have m0 : Mod [] w (w.alloc (.cells #[.slice none 0 0, .slice none 0 0, .slice none 0 0, .slice none 0 0, .int .i64 0] 27)) := (Mod.refl [] w).alloc _
  have em : (e : Int).tmod 2 = 1 := by rw [Int.tmod_eq_emod_of_nonneg (by omega)]; omega
  have emm : (e : Int) % 2 = 1 := by omega
  have HE := hide he
  have HB := hide hb
  have gi : (i : Int) < 10 := by omega
  have gj : (j : Int) < 10 := by omega
  have ge : (e : Int) < 2147483648 := by omega
  clear he
  rcases (by omega : i = j ∨ (i ≠ j ∧ e < 3) ∨ (i ≠ j ∧ 3 ≤ e)) with rfl | ⟨hij, hlt⟩ | ⟨hij, hge⟩
  · go_enter Tryz.func12, Tryz.ntmps12
    go_wp2_with fail
    refine (c_Primes _).mono ?_
    rintro r w1 ⟨g, vs, rfl, m1, hg, hvs, hpr⟩
    have hK1 := blk_up hK m1
    have m01 := m0.then m1
    have f0 := hK1.frozen 0
    have f1 := hK1.frozen 1
    have f2 := hK1.frozen 2
    have f3 := hK1.frozen 3
    have f4 := hK1.frozen 4
    have c0 : w1.cell? ⟨w.heap.size, 0, none⟩ = some (.slice none 0 0) := by rw [hK1.cell]; rfl
    have c1 : w1.cell? ⟨w.heap.size, 1, none⟩ = some (.slice none 0 0) := by rw [hK1.cell]; rfl
    have c2 : w1.cell? ⟨w.heap.size, 2, none⟩ = some (.slice none 0 0) := by rw [hK1.cell]; rfl
    have c3 : w1.cell? ⟨w.heap.size, 3, none⟩ = some (.slice none 0 0) := by rw [hK1.cell]; rfl
    have c4 : w1.cell? ⟨w.heap.size, 4, none⟩ = some (.int .i64 0) := by rw [hK1.cell]; rfl
    clear hpr hg m0 m1 hK
    go_wp2_with fail
    have hB2 := ((((hK1.setCell 0 (.slice none 0 0)).setCell 1 (.slice none 0 0)).setCell 2 (.slice none 0 0)).setCell 3 (.slice none 0 0)).setCell 4 (.int .i64 0)
    have mS : Mod [] w (((((w1.setCell ⟨w.heap.size, 0, none⟩ (.slice none 0 0)).setCell ⟨w.heap.size, 1, none⟩ (.slice none 0 0)).setCell ⟨w.heap.size, 2, none⟩ (.slice none 0 0)).setCell ⟨w.heap.size, 3, none⟩ (.slice none 0 0)).setCell ⟨w.heap.size, 4, none⟩ (.int .i64 0)) :=
      ((((m01.setCell _ _ (fun h => absurd h (Nat.lt_irrefl _))).setCell _ _ (fun h => absurd h (Nat.lt_irrefl _))).setCell _ _ (fun h => absurd h (Nat.lt_irrefl _))).setCell _ _ (fun h => absurd h (Nat.lt_irrefl _))).setCell _ _ (fun h => absurd h (Nat.lt_irrefl _))
    refine bodyPost_ret (results_key rfl rfl rfl (by rw [hB2.cell]; rfl) (by rw [hB2.cell]; rfl) (by rw [hB2.cell]; rfl) (by rw [hB2.cell]; rfl) (by rw [hB2.cell]; rfl)) rfl ?_
    exact ⟨mS, _, _, _, _, 0, 0, 0, 0, 0, false, rfl, ⟨natV_nil _, natV_nil _, natV_nil _, natV_nil _, by decide, by decide, by decide, by decide⟩, fun h => by simp at h⟩
  · have gij : ((i : Int) == (j : Int)) = false := by rw [beq_eq_false_iff_ne]; omega
    have ge3 : (e : Int) < 3 := by omega
    go_enter Tryz.func12, Tryz.ntmps12
    go_wp2_with fail
    refine (c_Primes _).mono ?_
    rintro r w1 ⟨g, vs, rfl, m1, hg, hvs, hpr⟩
    have hK1 := blk_up hK m1
    have m01 := m0.then m1
    have f0 := hK1.frozen 0
    have f1 := hK1.frozen 1
    have f2 := hK1.frozen 2
    have f3 := hK1.frozen 3
    have f4 := hK1.frozen 4
    have c0 : w1.cell? ⟨w.heap.size, 0, none⟩ = some (.slice none 0 0) := by rw [hK1.cell]; rfl
    have c1 : w1.cell? ⟨w.heap.size, 1, none⟩ = some (.slice none 0 0) := by rw [hK1.cell]; rfl
    have c2 : w1.cell? ⟨w.heap.size, 2, none⟩ = some (.slice none 0 0) := by rw [hK1.cell]; rfl
    have c3 : w1.cell? ⟨w.heap.size, 3, none⟩ = some (.slice none 0 0) := by rw [hK1.cell]; rfl
    have c4 : w1.cell? ⟨w.heap.size, 4, none⟩ = some (.int .i64 0) := by rw [hK1.cell]; rfl
    clear hpr hg m0 m1 hK
    go_wp2_with fail
    have hB2 := ((((hK1.setCell 0 (.slice none 0 0)).setCell 1 (.slice none 0 0)).setCell 2 (.slice none 0 0)).setCell 3 (.slice none 0 0)).setCell 4 (.int .i64 0)
    have mS : Mod [] w (((((w1.setCell ⟨w.heap.size, 0, none⟩ (.slice none 0 0)).setCell ⟨w.heap.size, 1, none⟩ (.slice none 0 0)).setCell ⟨w.heap.size, 2, none⟩ (.slice none 0 0)).setCell ⟨w.heap.size, 3, none⟩ (.slice none 0 0)).setCell ⟨w.heap.size, 4, none⟩ (.int .i64 0)) :=
      ((((m01.setCell _ _ (fun h => absurd h (Nat.lt_irrefl _))).setCell _ _ (fun h => absurd h (Nat.lt_irrefl _))).setCell _ _ (fun h => absurd h (Nat.lt_irrefl _))).setCell _ _ (fun h => absurd h (Nat.lt_irrefl _))).setCell _ _ (fun h => absurd h (Nat.lt_irrefl _))
    refine bodyPost_ret (results_key rfl rfl rfl (by rw [hB2.cell]; rfl) (by rw [hB2.cell]; rfl) (by rw [hB2.cell]; rfl) (by rw [hB2.cell]; rfl) (by rw [hB2.cell]; rfl)) rfl ?_
    exact ⟨mS, _, _, _, _, 0, 0, 0, 0, 0, false, rfl, ⟨natV_nil _, natV_nil _, natV_nil _, natV_nil _, by decide, by decide, by decide, by decide⟩, fun h => by simp at h⟩
  · have gij : ((i : Int) == (j : Int)) = false := by rw [beq_eq_false_iff_ne]; omega
    have ge3 : decide ((e : Int) < 3) = false := decide_eq_false (by omega)
    have geb : decide ((2147483648 : Int) ≤ (e : Int)) = false := decide_eq_false (by omega)
    obtain ⟨t1, t2, t3, t4, t5, t6⟩ := pair_facts hi hj hij
    obtain ⟨p1, p2, p3⟩ := prs_ok _ (nth_prs hi)
    obtain ⟨q1, q2, q3⟩ := prs_ok _ (nth_prs hj)
    have pl := prs_lim (nth_prs hi)
    have ql := prs_lim (nth_prs hj)
    have pb : blen (nth prs i) ≤ 607 := blen_le p2
    have qb : blen (nth prs j) ≤ 607 := blen_le q2
    have p0 : 1 ≤ nth prs i := Nat.le_trans Nat.one_le_two_pow (Nat.le_of_lt p1)
    have q0 : 1 ≤ nth prs j := Nat.le_trans Nat.one_le_two_pow (Nat.le_of_lt q1)
    obtain ⟨p, hp⟩ : ∃ p, p = nth prs i := ⟨_, rfl⟩
    obtain ⟨q, hq⟩ : ∃ q, q = nth prs j := ⟨_, rfl⟩
    obtain ⟨l, hl⟩ : ∃ l, l = leastV p q := ⟨_, rfl⟩
    rw [← hp] at p0 pl pb t1 t2 t3 t4 t5 t6
    rw [← hq] at q0 ql qb t1 t2 t3 t4 t5 t6
    rw [← hl] at t1 t2 t6
    have HP := hide hp
    have HQ := hide hq
    have HL := hide hl
    have HIJ := hide hij
    have HGE := hide hge
    have T1 := hide t1
    have T2 := hide t2
    have T3 := hide t3
    have T6 := hide t6
    have PB := hide pb
    have QB := hide qb
    have C1 := hide (fun w' v u (h : NatV w' v p) (h' : NatV w' u 1) => n_Sub v u p 1 w' h h' pl p0)
    have C2 := hide (fun w' v u (h : NatV w' v q) (h' : NatV w' u 1) => n_Sub v u q 1 w' h h' ql q0)
    have C3 := hide (fun w' v u (h : NatV w' v (p - 1)) (h' : NatV w' u (q - 1)) => n_Mul v u (p - 1) (q - 1) w' h h' (by omega) (by omega))
    have C4 := hide (fun w' v u (h : NatV w' v (p - 1)) (h' : NatV w' u (q - 1)) => n_Gcd v u (p - 1) (q - 1) w' h h' (by omega) (by omega))
    have C5 := hide (fun w' v u (h : NatV w' v ((p - 1) * (q - 1))) (h' : NatV w' u (Nat.gcd (p - 1) (q - 1))) => n_DivMod v u _ _ w' h h' t5 t4)
    have C6 := hide (fun w' => n_Small e (by omega) w')
    have C7 := hide (fun w' v u (h : IntIs w' v (e : Int)) (h' : NatV w' u l) => c_Inverse v u e l w' h h' (by omega) (by omega) t2)
    have C8 := hide (fun w' v u (h : NatV w' v p) (h' : NatV w' u q) => n_Mul v u p q w' h h' pl ql)
    clear ge hb p1 p2 p3 q1 q2 q3 hp hq hl hij hge t1 t2 t3 t4 t5 t6 pl ql pb qb p0 q0
    go_enter Tryz.func12, Tryz.ntmps12
    go_wp2_with fail
    refine (c_Primes _).mono ?_
    rintro r w1 ⟨g, vs, rfl, m1, hg, hvs, hpr⟩
    have hK1 := blk_up hK m1
    have m01 := m0.then m1
    obtain ⟨vP, hvP, nP⟩ := hpr i hi
    obtain ⟨vQ, hvQ, nQ⟩ := hpr j hj
    rw [← HP.out] at nP
    rw [← HQ.out] at nQ
    have hgK : g ≠ w.heap.size := hg.ne hK1 (by decide)
    have s1 : w1.cell? ⟨g, i, none⟩ = some vP := by rw [hg.cell, hvP]
    have s2 : w1.cell? ⟨g, j, none⟩ = some vQ := by rw [hg.cell, hvQ]
    obtain ⟨aP, kP, cP, rfl⟩ := nP.lit
    obtain ⟨aQ, kQ, cQ, rfl⟩ := nQ.lit
    clear hpr hg m0 m1 hK hvP hvQ hvs
    go_wp2_with fail
    have hS0 : Hid (GS w g i j (.slice aP kP cP) (.slice aQ kQ cQ) w1) := hide ⟨s1, s2, m01⟩
    clear s1 s2
    go_region_held3 (fun w' => w'.cell? ⟨g, i, none⟩ = some (.slice aP kP cP) ∧ w'.cell? ⟨g, j, none⟩ = some (.slice aQ kQ cQ) ∧ Mod [] w w')
      ((show GS w g i j (.slice aP kP cP) (.slice aQ kQ cQ) _; (repeat (first | with_reducible exact hS4.out | with_reducible exact hS3.out | with_reducible exact hS2.out | with_reducible exact hS1.out | with_reducible exact hS0.out | ((with_reducible refine GS.set ?_ ?_ ?_); rotate_left; (focus omega); (focus omega)) | with_reducible refine GS.up ?_ ((Mod.refl [] _).drew))); done))
      (first | (have hU := hU3; go_at_call_of 23 (Value.slice aQ kQ cQ); refine (C2.out _ _ _ ((((nQ.mod m2).mod m3).mod m4)) hU3).mono ?_; rintro r w5 ⟨vB, rfl, m5, hB⟩; have hS4 := hide (hS3.out.up m5)) | (go_at_call_of 23 (Value.slice aP kP cP); refine (C1.out _ _ _ (nP.mod m2) hU1).mono ?_; rintro r w3 ⟨vA, rfl, m3, hA⟩; have hS2 := hide (hS1.out.up m3)) | (have hx := hA; go_at_call 25; refine (n_Small 1 (by decide) _).mono ?_; rintro r w4 ⟨u3, rfl, m4, hU3⟩; have hS3 := hide (hS2.out.up m4)) | (go_at_call 25; refine (n_Small 1 (by decide) _).mono ?_; rintro r w2 ⟨u1, rfl, m2', hU1⟩; have m2 : Mod [] w1 w2 := m2'.ofDrew; clear m2'; have hS1 := hide (hS0.out.up m2)))
    have hS := hS4
    have nP5 := (((nP.mod m2).mod m3).mod m4).mod m5
    have nQ5 := (((nQ.mod m2).mod m3).mod m4).mod m5
    have hA5 := (hA.mod m4).mod m5
    have hK5 := blk_up (blk_up (blk_up (blk_up hK1 m2) m3) m4) m5
    clear hS0 hS1 hS2 hS3 hS4 nP nQ hA hU1 hU3 hK1 m2 m3 m4 m5 m01
    go_wp2_with fail
    refine (C3.out _ _ _ hA5 hB).mono ?_
    rintro r w6 ⟨vM, rfl, m6, hM⟩
    go_wp2_with fail
    refine (C4.out _ _ _ (hA5.mod m6) (hB.mod m6)).mono ?_
    rintro r w7 ⟨vG, rfl, m7, hG⟩
    go_wp2_with fail
    refine (C5.out _ _ _ (hM.mod m7) hG).mono ?_
    rintro r w8 ⟨vl, vr, rfl, m8, hl8, -⟩
    rw [show (p - 1) * (q - 1) / Nat.gcd (p - 1) (q - 1) = l from HL.out.symm] at hl8
    go_wp2_with fail
    refine (C6.out _).mono ?_
    rintro r w9 ⟨ve, rfl, m9, he9⟩
    go_wp2_with fail
    refine (n_Make ve e _ he9).mono ?_
    rintro r w10 ⟨vi, rfl, m10, hi10⟩
    go_wp2_with fail
    refine (C7.out _ _ _ hi10 ((hl8.mod m9).mod m10)).mono ?_
    rintro r w11 ⟨vd, d, rfl, m11, hd11, hdl, hinv⟩
    have m511 := ((((m6.then m7).then m8).then m9).then m10).then m11
    have nP11 := nP5.mod m511
    have nQ11 := nQ5.mod m511
    have hK11 := blk_up hK5 m511
    have hS11 := hide (hS.out.up m511)
    obtain ⟨aD, kD, cD, rfl⟩ := hd11.lit
    have HD := hide hdl
    have HI := hide hinv
    obtain ⟨ok, hok⟩ : ∃ b, b = decide (Nat.gcd e l = 1) := ⟨_, rfl⟩
    rw [← hok]
    have HOK := hide hok
    clear hS hA5 hB hM hG hl8 he9 hi10 m6 m7 m8 m9 m10 m11 m511 nP5 nQ5 hK5 hdl hinv hok
    go_wp2_with fail
    go_region_held3 (fun w' => w'.cell? ⟨g, i, none⟩ = some (.slice aP kP cP) ∧ w'.cell? ⟨g, j, none⟩ = some (.slice aQ kQ cQ) ∧ Mod [] w w')
      ((show GS w g i j (.slice aP kP cP) (.slice aQ kQ cQ) _; (repeat (first | with_reducible exact hS12.out | with_reducible exact hS11.out | ((with_reducible refine GS.set ?_ ?_ ?_); rotate_left; (focus omega); (focus omega)) | with_reducible refine GS.up ?_ ((Mod.refl [] _).drew))); done))
      ((go_at_call 29; refine (C8.out _ _ _ (nP11.mod ((Mod.refl [] _).drew)) (nQ11.mod ((Mod.refl [] _).drew))).mono ?_; rintro r w12 ⟨vN, rfl, m12', hN⟩; have m12 : Mod [] w11 w12 := m12'.ofDrew; clear m12'; obtain ⟨aN, kN, cN, rfl⟩ := hN.lit; have hS12 := hide (hS11.out.up m12); have hK12 := blk_up hK11 m12; have f0 := hK12.frozen 0; have f1 := hK12.frozen 1; have f2 := hK12.frozen 2; have f3 := hK12.frozen 3; have f4 := hK12.frozen 4; have c0 : w12.cell? ⟨w.heap.size, 0, none⟩ = some (.slice none 0 0) := (by rw [hK12.cell]; rfl); have c1 : w12.cell? ⟨w.heap.size, 1, none⟩ = some (.slice none 0 0) := (by rw [hK12.cell]; rfl); have c2 : w12.cell? ⟨w.heap.size, 2, none⟩ = some (.slice none 0 0) := (by rw [hK12.cell]; rfl); have c3 : w12.cell? ⟨w.heap.size, 3, none⟩ = some (.slice none 0 0) := (by rw [hK12.cell]; rfl); have c4 : w12.cell? ⟨w.heap.size, 4, none⟩ = some (.int .i64 0) := (by rw [hK12.cell]; rfl)))
    go_wp2_with fail
    have hB2 := (((((hK12.setCell 0 (.slice aN kN cN)).setCell 1 (.slice aD kD cD)).setCell 2 (.slice aP kP cP)).setCell 3 (.slice aQ kQ cQ)).setCell 4 (.int .i64 e))
    have mS : Mod [] w (((((w12.setCell ⟨w.heap.size, 0, none⟩ (.slice aN kN cN)).setCell ⟨w.heap.size, 1, none⟩ (.slice aD kD cD)).setCell ⟨w.heap.size, 2, none⟩ (.slice aP kP cP)).setCell ⟨w.heap.size, 3, none⟩ (.slice aQ kQ cQ)).setCell ⟨w.heap.size, 4, none⟩ (.int .i64 e)) := (((((hS12.out.2.2.setCell _ _ (fun h => absurd h (Nat.lt_irrefl _))).setCell _ _ (fun h => absurd h (Nat.lt_irrefl _))).setCell _ _ (fun h => absurd h (Nat.lt_irrefl _))).setCell _ _ (fun h => absurd h (Nat.lt_irrefl _))).setCell _ _ (fun h => absurd h (Nat.lt_irrefl _)))
    have mX : Mod [w.heap.size] w12 (((((w12.setCell ⟨w.heap.size, 0, none⟩ (.slice aN kN cN)).setCell ⟨w.heap.size, 1, none⟩ (.slice aD kD cD)).setCell ⟨w.heap.size, 2, none⟩ (.slice aP kP cP)).setCell ⟨w.heap.size, 3, none⟩ (.slice aQ kQ cQ)).setCell ⟨w.heap.size, 4, none⟩ (.int .i64 e)) := (((((Mod.refl [w.heap.size] w12).setCell _ _ (by simp)).setCell _ _ (by simp)).setCell _ _ (by simp)).setCell _ _ (by simp)).setCell _ _ (by simp)
    have HN := natV_key hN hK12 mX
    have HD12 := natV_key (hd11.mod m12) hK12 mX
    have HP12 := natV_key (nP11.mod m12) hK12 mX
    have HQ12 := natV_key (nQ11.mod m12) hK12 mX
    first
      | (refine bodyPost_ret (results_key rfl rfl rfl (by rw [hB2.cell]; rfl) (by rw [hB2.cell]; rfl) (by rw [hB2.cell]; rfl) (by rw [hB2.cell]; rfl) (by rw [hB2.cell]; rfl)) rfl ?_
         exact ⟨mS, _, _, _, _, e, _, _, _, _, ok, rfl, ⟨HN, HD12, HP12, HQ12, T3.out, T6.out _ HD.out, Nat.le_trans PB.out (by omega), Nat.le_trans QB.out (by omega)⟩, fun h => ⟨HIJ.out, HGE.out, rfl, by rw [HP.out, HQ.out], HP.out, HQ.out, by rw [← HP.out, ← HQ.out, ← HL.out]; exact HD.out, by rw [← HP.out, ← HQ.out, ← HL.out, HI.out (of_decide_eq_true (HOK.out ▸ h))]; exact Nat.mod_eq_of_lt (Nat.lt_of_lt_of_le (by omega) T1.out)⟩⟩)
end Go.Proofs.YtkhopfobjijnlaaGreatDoor
namespace Go.Proofs.YtkhopfobjijnlaaGreatDoor
open Go.RowKit

set_option maxRecDepth 100000 in
set_option maxHeartbeats 16000000 in
theorem k_NewPriv (w : World) (vN vD vP vQ : Value) (BN BD BP BQ : List Nat) (en pv qv dv Nv : Nat) (gN : GotB w vN BN) (gD : GotB w vD BD) (gP : GotB w vP BP) (gQ : GotB w vQ BQ)
    (eN : bval BN = Nv) (eD : bval BD = dv) (eP : bval BP = pv) (eQ : bval BQ = qv) (lN : BN.length ≤ 100000) (lP : BP.length ≤ 100000) (lQ : BQ.length ≤ 100000) (lD : BD.length ≤ 8 * wlen Nv) (lD0 : 0 < BD.length)
    (hNv : Nv = pv * qv) (bN : blen Nv ≤ 4000) (KL : KeyLaw pv qv en dv ((qv % pv) ^ (pv - 1 - 1) % pv)) :
    Calls Tryz.prog 37 #[vN, .int .i64 en, vD, vP, vQ] w fun e w' => ∃ k n d p q bP bQ qi EP EQ, e = .returned (.tuple #[ptr k, .nilIface]) ∧ Mod [] w w' ∧ PrivAt w' k n en d p q pv qv dv ((qv % pv) ^ (pv - 1 - 1) % pv) Nv bP bQ qi EP EQ := by
  have p3 := KL.p3
  have q3 := KL.q3
  have KLh := hide KL
  have HNV := hide hNv
  have hN1 : 1 < Nv := by rw [hNv]; have h := (Nat.mul_lt_mul_left (a := pv) (b := 1) (c := qv) (by omega)).2 (by omega); omega
  have hdlt : dv < Nv := by rw [hNv]; exact KL.dlt
  have EN := hide eN
  have ED := hide eD
  have EP_ := hide eP
  have EQ_ := hide eQ
  clear KL hNv eN eD eP eQ
  have hz0 : Mod [] w w := Mod.refl _ _
  have bz : Mod [] w w := Mod.refl _ _
  go_enter Tryz.func37, Tryz.ntmps37
  go_wp2_with fail
  refine (k_NewModulus _ vN BN (gN.mod bz) lN (by rw [EN.out]; omega)).mono ?_
  rintro e v1 ⟨n, rfl, mm, hn, -⟩
  rw [EN.out] at hn
  have bv1 := bz.then mm
  clear mm bz
  go_wp2_with fail
  refine (k_NewModulus _ vP BP (gP.mod bv1) lP (by rw [EP_.out]; omega)).mono ?_
  rintro e v2 ⟨p, rfl, mm, hp, -⟩
  rw [EP_.out] at hp
  replace hn := (hn.mod mm)
  have bv2 := bv1.then mm
  clear mm bv1
  go_wp2_with fail
  refine (k_NewModulus _ vQ BQ (gQ.mod bv2) lQ (by rw [EQ_.out]; omega)).mono ?_
  rintro e v3 ⟨q, rfl, mm, hq, -⟩
  rw [EQ_.out] at hq
  replace hn := (hn.mod mm)
  replace hp := (hp.mod mm)
  have bv3 := bv2.then mm
  clear mm bv2
  go_wp2_with fail
  replace hz0 := (hz0.then bv3)
  replace gN := (gN.mod bv3)
  replace gD := (gD.mod bv3)
  replace gP := (gP.mod bv3)
  replace gQ := (gQ.mod bv3)
  clear bv3
  have cv3 : Mod [] v3 v3 := Mod.refl _ _
  refine (k_New _).mono ?_
  rintro e v4 ⟨x, rfl, mm, nx⟩
  replace nx := nx.mono cv3.size
  have bv4 := cv3.then mm
  clear mm cv3
  go_wp2_with fail
  refine (k_SetBytes _ _ x _ _ n _ vD BD nx (hn.mod bv4) (gD.mod bv4) (ApartN.old gD nx) (MSep.base bv4 hn nx) lD lD0 (by rw [ED.out]; exact hdlt)).mono ?_
  rintro e v5 ⟨rfl, f, n'⟩
  rw [ED.out] at n'
  have nn_ := n' bv4.size
  have bv5 := f.back bv4 nx
  clear nx n' f bv4
  have nx := nn_
  clear nn_
  go_wp2_with fail
  refine (k_newPriv _ n en x p q pv qv dv Nv _ (hn.mod bv5) (hp.mod bv5) (hq.mod bv5) nx HNV.out bN KLh.out).mono ?_
  rintro e v6 ⟨k, bP, bQ, qi, EP, EQ, rfl, mm, A⟩
  have bv6 := bv5.then mm
  clear mm bv5
  go_wp2_with fail
  go_ret2
  exact ⟨k, n, x, p, q, bP, bQ, qi, EP, EQ, rfl, (hz0.then bv6), A⟩
end Go.Proofs.YtkhopfobjijnlaaGreatDoor
