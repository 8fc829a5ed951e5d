/- The specification's whole numbers: Opposite, Minus, QuoRem, Euclid (written by ints2.py). The specification's whole numbers: Euclid (a divisor above 0) and Below (written by ints3.py). -/
import Derived.Test.YtkhopfobjijnlaaGreatDoorM20
import Derived.Deep.DeepCutAuto
set_option linter.all false
namespace Go.Proofs.YtkhopfobjijnlaaGreatDoor
open Go.RowKit

theorem results_int2 {fn : Func} {t u p q : Nat} {tmps : Array Value} {v x : Value} {w : World} (h : fn.results = #[.cell t 67, .cell u 67]) (hp : tmps.getD t undef = .pointer (some ⟨p, 0, none⟩)) (hq : tmps.getD u undef = .pointer (some ⟨q, 0, none⟩)) (hv : IntAt w p v) (hx : IntAt w q x) :
    (results fn tmps).run Tryz.prog w = .ok (.tuple #[v, x]) w := by
  obtain ⟨c0, c1, rfl, h0, h1⟩ := hv
  obtain ⟨d0, d1, rfl, g0, g1⟩ := hx
  have hp2 : tmps[t]?.getD undef = .pointer (some ⟨p, 0, none⟩) := by simpa using hp
  have hq2 : tmps[u]?.getD undef = .pointer (some ⟨q, 0, none⟩) := by simpa using hq
  simp [results, h, hp2, hq2, asAddr, load_int h0 h1, load_int g0 g1]

/-- The world behind two stores of numbers with signs. -/
theorem int_stored2 {w w' : World} {p q : Nat} {u v u' v' : Value} {x y : Bool} {a b : Option Addr} {n c k d : Nat} (hp : Blk w' p 67 [u, v]) (hq : Blk w' q 67 [u', v']) (hne : p ≠ q) (m : Mod [] w w') (g1 : w.heap.size ≤ p) (g2 : w.heap.size ≤ q) (hB : IntBlk w' p ∧ IntBlk w' q) :
    Mod [] w ((((w'.setCell ⟨p, 0, none⟩ (.bool x)).setCell ⟨p, 1, none⟩ (.slice a n c)).setCell ⟨q, 0, none⟩ (.bool y)).setCell ⟨q, 1, none⟩ (.slice b k d)) ∧
    IntAt ((((w'.setCell ⟨p, 0, none⟩ (.bool x)).setCell ⟨p, 1, none⟩ (.slice a n c)).setCell ⟨q, 0, none⟩ (.bool y)).setCell ⟨q, 1, none⟩ (.slice b k d)) p (.agg #[.bool x, .slice a n c]) ∧
    IntAt ((((w'.setCell ⟨p, 0, none⟩ (.bool x)).setCell ⟨p, 1, none⟩ (.slice a n c)).setCell ⟨q, 0, none⟩ (.bool y)).setCell ⟨q, 1, none⟩ (.slice b k d)) q (.agg #[.bool y, .slice b k d]) ∧
    (∀ s z, IntIs w' s z → IntIs ((((w'.setCell ⟨p, 0, none⟩ (.bool x)).setCell ⟨p, 1, none⟩ (.slice a n c)).setCell ⟨q, 0, none⟩ (.bool y)).setCell ⟨q, 1, none⟩ (.slice b k d)) s z) := by
  have h1 := (hp.setCell 0 (.bool x)).setCell 1 (.slice a n c)
  have h2 := (hq.setCell_other ⟨p, 0, none⟩ (.bool x) hne.symm).setCell_other ⟨p, 1, none⟩ (.slice a n c) hne.symm
  refine ⟨mod_store (mod_store m g1) g2, blk2 ((h1.setCell_other _ _ hne).setCell_other _ _ hne), blk2 ((h2.setCell 0 _).setCell 1 _), fun s z h => ?_⟩
  obtain ⟨⟨x0, a0, n0, c0, B1⟩, ⟨x1, a1, n1, c1, B2⟩⟩ := hB
  have i1 := h.set B1 (((Mod.refl [p] w').setCell ⟨p, 0, none⟩ (.bool x) (by simp)).setCell ⟨p, 1, none⟩ (.slice a n c) (by simp))
  exact i1.set ((B2.setCell_other ⟨p, 0, none⟩ (.bool x) hne.symm).setCell_other ⟨p, 1, none⟩ (.slice a n c) hne.symm) (((Mod.refl [q] _).setCell ⟨q, 0, none⟩ (.bool y) (by simp)).setCell ⟨q, 1, none⟩ (.slice b k d) (by simp))

set_option maxRecDepth 100000 in
theorem c_Opposite (va : Value) (x : Int) (w : World) (ha : IntIs w va x) :
    Calls Tryz.prog 75 #[va] w fun e w' => ∃ v, e = .returned v ∧ Mod [] w w' ∧ IntIs w' v (-x) := by
  obtain ⟨ba, sa, A, rfl, hsa, cA, ex, ax, dx⟩ := ha.split
  have HZ : Hid ((if (!ba) then -(valS A : Int) else valS A) = -x) := by
    refine hide ?_
    rw [ex]
    cases ba <;> simp
  clear ha ex ax dx
  obtain ⟨aa, ca, rfl⟩ := hsa.lit
  have m0 : Mod [] w ((w.alloc (.cells #[.bool ba, .slice aa A.length ca] 67)).alloc (.cells #[.bool false, .slice none 0 0] 67)) := ((Mod.refl [] w).alloc _).alloc _
  have hC := Blk.new (w.alloc (.cells #[.bool ba, .slice aa A.length ca] 67)) 67 [.bool false, .slice none 0 0]
  rw [World.size_alloc] at hC
  go_enter Tryz.func75, Tryz.ntmps75
  go_wp2_with fail
  refine (c_Make (!ba) (.slice aa A.length ca) A _ (hsa.mod m0 (by simp)) cA).mono ?_
  rintro e w2 ⟨v2, rfl, m2, h2⟩
  rw [HZ.out] at h2
  obtain ⟨b2, a2, n2, c2, rfl⟩ := h2.lit
  have hb3 := hC.mod m2 (by simp)
  obtain ⟨f0, f1, f2, f3⟩ := int_cells hb3
  have hst := fun c0 c1 => int_stored (c0 := c0) (c1 := c1) hb3 (m0.then m2) (show w.heap.size ≤ w.heap.size + 1 by omega)
  go_wp2_with fail
  refine bodyPost_ret (results_int rfl rfl (hst _ _).2.2) rfl ?_
  exact ⟨_, rfl, (hst _ _).1, h2.set hb3 (hst (.bool b2) (.slice a2 n2 c2)).2.1⟩

set_option maxRecDepth 100000 in
set_option maxHeartbeats 1000000 in
theorem c_Minus (va vb : Value) (x y : Int) (w : World) (ha : IntIs w va x) (hb : IntIs w vb y) (lx : x.natAbs < lim) (ly : y.natAbs < lim) :
    Calls Tryz.prog 73 #[va, vb] w fun e w' => ∃ v, e = .returned v ∧ Mod [] w w' ∧ IntIs w' v (x - y) := by
  obtain ⟨ba, aa, na, ca, rfl⟩ := ha.lit
  obtain ⟨bb, ab, nb, cb, rfl⟩ := hb.lit
  have HS := hide (held1_start w ba bb aa ab na ca nb cb)
  have C1 := hide (fun w' (m : Mod [] w w') => c_Opposite _ y w' (hb.mod m))
  have C2 := hide (fun w' (m : Mod [] w w') v (h : IntIs w' v (-y)) => c_Plus _ v x (-y) w' (ha.mod m) h lx (by rw [Int.natAbs_neg]; exact ly))
  clear ha hb
  go_enter Tryz.func73, Tryz.ntmps73
  go_wp2_with fail
  go_region_held3 (fun w' => w'.cell? ⟨w.heap.size, 0, none⟩ = some (.bool ba) ∧ w'.cell? ⟨w.heap.size, 1, none⟩ = some (.slice aa na ca) ∧ w'.cell? ⟨w.heap.size + 1, 0, none⟩ = some (.bool bb) ∧ w'.cell? ⟨w.heap.size + 1, 1, none⟩ = some (.slice ab nb cb) ∧ Mod [] w w' ∧ IntBlk w' (w.heap.size + 1 + 1))
    (first | exact Held1.drew HS.out | exact Held1.keep (l := [(_, _, _), (_, _, _)]) (by assumption) (by assumption) | exact Held1.store (l := [(_, _, _), (_, _, _)]) (by intro x hx; simp only [List.mem_cons, List.not_mem_nil, or_false] at hx; rcases hx with rfl | rfl <;> (dsimp only; omega)) (by omega) (by assumption))
    (first | (go_at_call 75; refine (C1.out _ ?_).mono ?_; exact Held1.mod (l := [(_, _, _), (_, _, _)]) (by assumption); rintro e w1 ⟨v1, rfl, m1, h1⟩) | (go_at_call 103; have hm1 := Held1.mod (w := w) (w1 := w1) (l := [(_, _, _), (_, _, _)]) (by assumption); obtain ⟨x2, y2, z2, u2, hb2⟩ := Held1.blk (w := w) (w1 := w1) (l := [(_, _, _), (_, _, _)]) (by assumption); refine (C2.out _ hm1 _ h1).mono ?_; rintro e w2 ⟨v2, rfl, m2, h2⟩; obtain ⟨b2, a2, n2, c2, rfl⟩ := h2.lit; have hm2 := hm1.then m2; have hb3 := hb2.mod m2 (by simp); obtain ⟨f0, f1, f2, f3⟩ := int_cells hb3))
  have hst := fun c0 c1 => int_stored (c0 := c0) (c1 := c1) hb3 hm2 (show w.heap.size ≤ w.heap.size + 1 + 1 by omega)
  go_wp2_with fail
  refine bodyPost_ret (results_int rfl rfl (hst _ _).2.2) rfl ?_
  exact ⟨_, rfl, (hst _ _).1, by have := h2.set hb3 (hst (.bool b2) (.slice a2 n2 c2)).2.1; rwa [← Int.sub_eq_add_neg] at this⟩

/-- The quotient towards 0 and what is left over. -/
def iq (x y : Int) : Int := if (decide (x < 0) != decide (y < 0)) then -((x.natAbs / y.natAbs : Nat) : Int) else ((x.natAbs / y.natAbs : Nat) : Int)
def ir (x y : Int) : Int := if decide (x < 0) then -((x.natAbs % y.natAbs : Nat) : Int) else ((x.natAbs % y.natAbs : Nat) : Int)

set_option maxRecDepth 100000 in
set_option maxHeartbeats 1000000 in
theorem c_QuoRem (va vb : Value) (x y : Int) (w : World) (ha : IntIs w va x) (hb : IntIs w vb y) (lx : x.natAbs < lim) (hy : y ≠ 0) :
    Calls Tryz.prog 72 #[va, vb] w fun e w' => ∃ v1 v2, e = .returned (.tuple #[v1, v2]) ∧ Mod [] w w' ∧ IntIs w' v1 (iq x y) ∧ IntIs w' v2 (ir x y) := by
  obtain ⟨ba, sa, A, rfl, hsa, cA, ex, ax, dx⟩ := ha.split
  obtain ⟨bb, sb, B, rfl, hsb, cB, ey, ay, dy⟩ := hb.split
  have lA := cA.lim (by rw [ax]; exact lx)
  have HZ1 : Hid (∀ n : Nat, n = valS A / valS B → (if (ba != bb) then -(n : Int) else n) = iq x y) := hide fun n h => by rw [h, ax, ay, dx, dy]; rfl
  have HZ2 : Hid (∀ n : Nat, n = valS A % valS B → (if ba then -(n : Int) else n) = ir x y) := hide fun n h => by rw [h, ax, ay, dx]; rfl
  obtain ⟨na, hna⟩ : ∃ na, na = A.length := ⟨_, rfl⟩
  obtain ⟨nb, hnb⟩ : ∃ nb, nb = B.length := ⟨_, rfl⟩
  obtain ⟨aa, ca, rfl⟩ := hsa.lit
  obtain ⟨ab, cb, rfl⟩ := hsb.lit
  rw [← hna] at hsa ⊢
  rw [← hnb] at hsb ⊢
  have HS0 := hide (held2_start w ba bb aa ab na ca nb cb)
  have C1 := hide (fun w' (m : Mod [] w w') => c_DivMod _ _ A B w' (hsa.mod m (by simp)) (hsb.mod m (by simp)) cA cB (by omega) (by omega))
  have C2 := hide (fun w' b v L (h : SliceK i64 w' v L) (c : Canon L) => c_Make b v L w' h c)
  clear ha hb ex ey ax ay dx dy hna hnb lx hy
  go_enter Tryz.func72, Tryz.ntmps72
  go_wp2_with fail
  refine (C1.out _ (Held2.mod HS0.out)).mono ?_
  rintro e w1 ⟨v1, v2, Q, R, rfl, m1, hQ, cQ, eQ, lQ, hR, cR, eR, lR⟩
  have HS := hide (HS0.out.keep m1)
  have EQ := hide eQ
  have ER := hide eR
  clear eQ eR
  obtain ⟨aq, cq, rfl⟩ := hQ.lit
  obtain ⟨ar, cr, rfl⟩ := hR.lit
  obtain ⟨nq, hnq⟩ : ∃ nq, nq = Q.length := ⟨_, rfl⟩
  obtain ⟨nr, hnr⟩ : ∃ nr, nr = R.length := ⟨_, rfl⟩
  rw [← hnq] at hQ ⊢
  rw [← hnr] at hR ⊢
  clear hnq hnr lQ lR
  have hQ := hQ.mod ((Mod.refl [] w1).drew) (by simp)
  have hR := hR.mod ((Mod.refl [] w1).drew) (by simp)
  go_wp2_with fail
  go_region_held3 (fun w' => w'.cell? ⟨w.heap.size, 0, none⟩ = some (.bool ba) ∧ w'.cell? ⟨w.heap.size, 1, none⟩ = some (.slice aa na ca) ∧ w'.cell? ⟨w.heap.size + 1, 0, none⟩ = some (.bool bb) ∧ w'.cell? ⟨w.heap.size + 1, 1, none⟩ = some (.slice ab nb cb) ∧ Mod [] w w' ∧ IntBlk w' (w.heap.size + 1 + 1) ∧ IntBlk w' (w.heap.size + 1 + 1 + 1))
    (first | exact Held2.drew HS.out | exact Held2.keep (l := [(_, _, _), (_, _, _)]) (by assumption) (by assumption) | exact Held2.store (l := [(_, _, _), (_, _, _)]) (by intro x hx; simp only [List.mem_cons, List.not_mem_nil, or_false] at hx; rcases hx with rfl | rfl <;> (dsimp only; omega)) (by omega) (by assumption))
    (first | (go_at_call_of 32 (Value.slice aq nq cq); refine (C2.out _ _ _ _ hQ cQ).mono ?_; rintro e w2 ⟨v3, rfl, m2, h2⟩; obtain ⟨b2, a2, n2, c2, rfl⟩ := h2.lit; have hR2 := hR.mod m2 (by simp)) | (go_at_call_of 32 (Value.slice ar nr cr); have hm2 := Held2.mod (w := w) (w1 := w2) (l := [(_, _, _), (_, _, _)]) (by assumption); have hbl := Held2.blk (w := w) (w1 := w2) (l := [(_, _, _), (_, _, _)]) (by assumption); refine (C2.out _ _ _ _ hR2 cR).mono ?_; rintro e w3 ⟨v4, rfl, m3, h3⟩; obtain ⟨b3, a3, n3, c3, rfl⟩ := h3.lit; have hm3 := hm2.then m3; have h2' := h2.mod m3; have hbl3 := And.intro (hbl.1.mod m3) (hbl.2.mod m3); obtain ⟨⟨xp, yp, zp, up, hp⟩, ⟨xq, yq, zq, uq, hq⟩⟩ := id hbl3; obtain ⟨f0, f1, f2, f3⟩ := int_cells hp; obtain ⟨g0, g1, g2, g3⟩ := int_cells hq))
  have hst := int_stored2 (x := b2) (y := b3) (a := a2) (b := a3) (n := n2) (c := c2) (k := n3) (d := c3) hp hq (show w.heap.size + 1 + 1 ≠ w.heap.size + 1 + 1 + 1 by omega) hm3 (show w.heap.size ≤ w.heap.size + 1 + 1 by omega) (show w.heap.size ≤ w.heap.size + 1 + 1 + 1 by omega) hbl3
  go_wp2_with fail
  refine bodyPost_ret (results_int2 rfl rfl rfl hst.2.1 hst.2.2.1) rfl ?_
  refine ⟨_, _, rfl, hst.1, ?_, ?_⟩
  · rw [← HZ1.out _ EQ.out]; exact hst.2.2.2 _ _ h2'
  · rw [← HZ2.out _ ER.out]; exact hst.2.2.2 _ _ h3

theorem neg_emod_nat {k m : Nat} (hm : 0 < m) : (-(k : Int)) % (m : Int) = if k % m = 0 then 0 else (m : Int) - (k % m : Nat) := by
  have hk := Nat.div_add_mod k m
  have hr := Nat.mod_lt k hm
  generalize hq : k / m = q at *
  generalize hR : k % m = r at *
  have e : (-(k : Int)) = ((m : Int) - (r : Int)) + (m : Int) * (-(q : Int) - 1) := by
    rw [← hk, Int.natCast_add, Int.natCast_mul]
    grind
  by_cases h0 : r = 0
  · rw [if_pos h0, e, Int.add_mul_emod_self_left, h0]
    simp
  · rw [if_neg h0, e, Int.add_mul_emod_self_left, Int.emod_eq_of_lt (by omega) (by omega)]
/-- What is left over from 0 on. -/
theorem ir_eq {x y : Int} (hy : 0 < y) : x % y = if ir x y < 0 then ir x y + y else ir x y := by
  unfold ir
  obtain ⟨m, rfl⟩ : ∃ m : Nat, y = m := ⟨y.toNat, by omega⟩
  by_cases hx : x < 0
  · obtain ⟨k, rfl⟩ : ∃ k : Nat, x = -(k : Int) := ⟨x.natAbs, by omega⟩
    rw [decide_eq_true hx, if_pos rfl, neg_emod_nat (by omega)]
    simp only [Int.natAbs_neg, Int.natAbs_natCast]
    by_cases h0 : k % m = 0
    · rw [if_pos h0, h0]; simp
    · rw [if_neg h0, if_pos (by omega)]; omega
  · obtain ⟨k, rfl⟩ : ∃ k : Nat, x = (k : Int) := ⟨x.toNat, by omega⟩
    simp only [decide_eq_false hx, Bool.false_eq_true, if_false, Int.natAbs_natCast]
    rw [if_neg (Int.not_lt.2 (Int.natCast_nonneg _))]
    exact (Int.natCast_emod _ _).symm
theorem ir_nat (x y : Nat) : ir x y = ((x % y : Nat) : Int) := by
  unfold ir
  rw [decide_eq_false (by omega), if_neg (by simp)]
  simp
theorem iq_nat (x y : Nat) : iq x y = ((x / y : Nat) : Int) := by
  unfold iq
  rw [decide_eq_false (by omega), decide_eq_false (by omega), if_neg (by simp)]
  simp
theorem ir_small (x y : Int) : (ir x y).natAbs ≤ x.natAbs := by
  unfold ir
  have := Nat.mod_le x.natAbs y.natAbs
  generalize x.natAbs % y.natAbs = k at *
  split <;> omega
theorem iq_small (x y : Int) : (iq x y).natAbs ≤ x.natAbs := by
  unfold iq
  have := Nat.div_le_self x.natAbs y.natAbs
  generalize x.natAbs / y.natAbs = k at *
  split <;> omega
end Go.Proofs.YtkhopfobjijnlaaGreatDoor
namespace Go.Proofs.YtkhopfobjijnlaaGreatDoor
set_option exponentiation.threshold 7000000
open Go.RowKit

theorem one_lim : 1 < lim := by rw [lim_eq]; exact Nat.one_lt_pow (by omega) (by omega)
/-- Two numbers that have just been made, beside two results and a third number. -/
theorem held2_three {w w1 : World} {r t q : Nat} {x y z : Bool} {a b d : Option Addr} {k c n e i j : Nat} (m : Mod [] w w1) (hr : IntBlk w1 r) (ht : IntBlk w1 t) (h0 : w1.cell? ⟨q, 0, none⟩ = some (.bool z)) (h1 : w1.cell? ⟨q, 1, none⟩ = some (.slice d i j)) :
    Held2 w ((w1.alloc (.cells #[.bool x, .slice a k c] 67)).alloc (.cells #[.bool y, .slice b n e] 67)) r t
      [(w1.heap.size, .bool x, .slice a k c), (w1.heap.size + 1, .bool y, .slice b n e), (q, .bool z, .slice d i j)] := by
  have mm : Mod [] w1 ((w1.alloc (.cells #[.bool x, .slice a k c] 67)).alloc (.cells #[.bool y, .slice b n e] 67)) := ((Mod.refl [] w1).alloc _).alloc _
  have h2 := int_cells ((Blk.new w1 67 [.bool x, .slice a k c]).alloc (.cells #[.bool y, .slice b n e] 67))
  have h3 := int_cells (Blk.new (w1.alloc (.cells #[.bool x, .slice a k c] 67)) 67 [.bool y, .slice b n e])
  simp only [World.size_alloc] at h3
  exact ⟨h2.1, h2.2.1, h3.1, h3.2.1, cell_mod mm h0, cell_mod mm h1, m.then mm, hr.mod mm, ht.mod mm⟩
theorem int_at_drew {w : World} {p : Nat} {v : Value} (h : IntAt w p v) : IntAt w.drew p v := by
  obtain ⟨c0, c1, h1, h2, h3⟩ := h
  exact ⟨c0, c1, h1, h2, h3⟩
theorem Mod.undrew (w : World) : Mod [] w.drew w := ⟨rfl, rfl, rfl, Nat.le_refl _, fun _ _ _ => rfl⟩
theorem Held2.storeD {w w1 : World} {r t q : Nat} {l : List (Nat × Value × Value)} {x : Bool} {a : Option Addr} {n c : Nat} (hr : ∀ x ∈ l, x.1 ≠ q) (hw : w.heap.size ≤ q) (h : Held2 w w1.drew r t l) : Held2 w ((w1.setCell ⟨q, 0, none⟩ (.bool x)).setCell ⟨q, 1, none⟩ (.slice a n c)).drew r t l :=
  ((h.keep (Mod.undrew w1)).store hr hw).drew

set_option maxRecDepth 100000 in
set_option maxHeartbeats 2000000 in
theorem c_Euclid (va vb : Value) (x y : Int) (w : World) (ha : IntIs w va x) (hb : IntIs w vb y) (lx : x.natAbs < lim) (ly : y.natAbs < lim) (hy : 0 < y) :
    Calls Tryz.prog 76 #[va, vb] w fun e w' => ∃ v1 v2 z, e = .returned (.tuple #[v1, v2]) ∧ Mod [] w w' ∧ IntIs w' v1 z ∧ IntIs w' v2 (x % y) := by
  have HE := hide (ir_eq (x := x) hy)
  obtain ⟨ba, aa, na, ca, rfl⟩ := ha.lit
  obtain ⟨bb, sb, B, hvb, hsb, cB, ey, ay, dy⟩ := hb.split
  obtain ⟨bb', ab, nb, cb, rfl⟩ := hb.lit
  have hbb : bb' = false := by
    have h1 : (Value.agg #[.bool bb', .slice ab nb cb]) = .agg #[.bool bb, sb] := hvb
    simp at h1
    rw [h1.1, dy]
    exact decide_eq_false (by omega)
  subst hbb
  have HS0 := hide (held2_start w ba false aa ab na ca nb cb)
  have C1 := hide (fun w' (m : Mod [] w w') => c_QuoRem _ _ x y w' (ha.mod m) (hb.mod m) lx (by omega))
  have C2 := hide (fun w' v v' (h : IntIs w' v (iq x y)) (h' : IntIs w' v' 1) => c_Minus v v' (iq x y) 1 w' h h' (Nat.lt_of_le_of_lt (iq_small x y) lx) one_lim)
  have C3 := hide (fun w' v (m : Mod [] w w') (h : IntIs w' v (ir x y)) => c_Plus v _ (ir x y) y w' h (hb.mod m) (Nat.lt_of_le_of_lt (ir_small x y) lx) ly)
  clear hvb hsb cB ey ay dy lx ly hy sb B bb ha hb
  go_enter Tryz.func76, Tryz.ntmps76
  go_wp2_with fail
  refine (C1.out _ (Held2.mod HS0.out)).mono ?_
  rintro e w1 ⟨v1, v2, rfl, m1, hq, hr⟩
  obtain ⟨bq, aq, nq, cq, rfl⟩ := hq.lit
  obtain ⟨br, sr, R, hvr, -, -, -, -, dr⟩ := hr.split
  obtain ⟨br', ar, nr, cr, rfl⟩ := hr.lit
  have hbr : br' = decide (ir x y < 0) := by
    have h1 : (Value.agg #[.bool br', .slice ar nr cr]) = .agg #[.bool br, sr] := hvr
    simp at h1
    rw [h1.1, dr]
  have HS1 := hide (HS0.out.keep m1)
  have hg := m1.size
  simp only [World.size_alloc] at hg
  obtain ⟨k0, k1, k2, k3, k4, k5, k6⟩ := HS1.out
  clear hvr dr
  by_cases hn : ir x y < 0
  · obtain rfl : br' = true := hbr.trans (decide_eq_true hn)
    have HN := hide hn
    have HS := hide (held2_three (x := bq) (a := aq) (k := nq) (c := cq) (y := true) (b := ar) (n := nr) (e := cr) k4 k5 k6 k2 k3)
    have hq1 : IntIs ((w1.alloc (.cells #[.bool bq, .slice aq nq cq] 67)).alloc (.cells #[.bool true, .slice ar nr cr] 67)).drew _ _ := hq.mod (((Mod.refl [] w1).alloc _).alloc _).drew
    have hr1 : IntIs ((w1.alloc (.cells #[.bool bq, .slice aq nq cq] 67)).alloc (.cells #[.bool true, .slice ar nr cr] 67)).drew _ _ := hr.mod (((Mod.refl [] w1).alloc _).alloc _).drew
    obtain ⟨-, -, -, -, q4, q5, -⟩ := HS.out
    clear hbr hn hq hr
    go_wp2_with fail
    go_region_held3 (fun w' => w'.cell? ⟨w1.heap.size, 0, none⟩ = some (.bool bq) ∧ w'.cell? ⟨w1.heap.size, 1, none⟩ = some (.slice aq nq cq) ∧ w'.cell? ⟨w1.heap.size + 1, 0, none⟩ = some (.bool true) ∧ w'.cell? ⟨w1.heap.size + 1, 1, none⟩ = some (.slice ar nr cr) ∧ w'.cell? ⟨w.heap.size + 1, 0, none⟩ = some (.bool false) ∧ w'.cell? ⟨w.heap.size + 1, 1, none⟩ = some (.slice ab nb cb) ∧ Mod [] w w' ∧ IntBlk w' (w.heap.size + 1 + 1) ∧ IntBlk w' (w.heap.size + 1 + 1 + 1))
      (first | exact Held2.drew HS.out | exact Held2.keep (l := [(_, _, _), (_, _, _), (_, _, _)]) (by assumption) (by assumption) | exact Held2.store (l := [(_, _, _), (_, _, _), (_, _, _)]) (by intro x hx; simp only [List.mem_cons, List.not_mem_nil, or_false] at hx; rcases hx with rfl | rfl | rfl <;> (dsimp only; omega)) (by omega) (by assumption))
      (first | (go_at_call 71; refine (c_Of64 1 (by decide) _).mono ?_; rintro e wa ⟨vo, rfl, ma, ho⟩) | (go_at_call 73; refine (C2.out _ _ _ (hq1.mod ma) ho).mono ?_; rintro e wb ⟨vm, rfl, mb, hm⟩; obtain ⟨bm, am, nm, cm, rfl⟩ := hm.lit) | (go_at_call 103; have hmb := Held2.mod (w := w) (w1 := wb) (l := [(_, _, _), (_, _, _), (_, _, _)]) (by assumption); have hbl := Held2.blk (w := w) (w1 := wb) (l := [(_, _, _), (_, _, _), (_, _, _)]) (by assumption); refine (C3.out _ _ hmb ((hr1.mod ma).mod mb)).mono ?_; rintro e wc ⟨vp, rfl, mc, hp⟩; obtain ⟨bp, ap, np, cp, rfl⟩ := hp.lit; have hmc := hmb.then mc; have hm' := hm.mod mc; have hbl3 := And.intro (hbl.1.mod mc) (hbl.2.mod mc); obtain ⟨⟨xp, yp, zp, up, hP⟩, ⟨xq, yq, zq, uq, hQ⟩⟩ := id hbl3; obtain ⟨f0, f1, f2, f3⟩ := int_cells hP; obtain ⟨g0, g1, g2, g3⟩ := int_cells hQ))
    have hst := int_stored2 (x := bm) (y := bp) (a := am) (b := ap) (n := nm) (c := cm) (k := np) (d := cp) hP hQ (show w.heap.size + 1 + 1 ≠ w.heap.size + 1 + 1 + 1 by omega) hmc (show w.heap.size ≤ w.heap.size + 1 + 1 by omega) (show w.heap.size ≤ w.heap.size + 1 + 1 + 1 by omega) hbl3
    go_wp2_with fail
    refine bodyPost_ret (results_int2 rfl rfl rfl hst.2.1 hst.2.2.1) rfl ?_
    refine ⟨_, _, _, rfl, hst.1, hst.2.2.2 _ _ hm', ?_⟩
    have := HE.out
    rw [if_pos HN.out] at this
    rw [this]
    exact hst.2.2.2 _ _ hp
  · obtain rfl : br' = false := hbr.trans (decide_eq_false hn)
    have HN := hide hn
    have HS := hide (held2_three (x := bq) (a := aq) (k := nq) (c := cq) (y := false) (b := ar) (n := nr) (e := cr) k4 k5 k6 k2 k3)
    have hq1 : IntIs ((w1.alloc (.cells #[.bool bq, .slice aq nq cq] 67)).alloc (.cells #[.bool false, .slice ar nr cr] 67)) _ _ := hq.mod (((Mod.refl [] w1).alloc _).alloc _)
    have hr1 : IntIs ((w1.alloc (.cells #[.bool bq, .slice aq nq cq] 67)).alloc (.cells #[.bool false, .slice ar nr cr] 67)) _ _ := hr.mod (((Mod.refl [] w1).alloc _).alloc _)
    have hbl3 := Held2.blk HS.out
    have hmc := Held2.mod HS.out
    obtain ⟨xp, yp, zp, up, hP1⟩ := k5
    obtain ⟨xq, yq, zq, uq, hQ1⟩ := k6
    obtain ⟨f0, f1, f2, f3⟩ := int_cells ((hP1.alloc (.cells #[.bool bq, .slice aq nq cq] 67)).alloc (.cells #[.bool false, .slice ar nr cr] 67))
    obtain ⟨g0, g1, g2, g3⟩ := int_cells ((hQ1.alloc (.cells #[.bool bq, .slice aq nq cq] 67)).alloc (.cells #[.bool false, .slice ar nr cr] 67))
    have hP : Blk ((w1.alloc (.cells #[.bool bq, .slice aq nq cq] 67)).alloc (.cells #[.bool false, .slice ar nr cr] 67)) _ _ _ := ((hP1.alloc _).alloc _)
    have hQ : Blk ((w1.alloc (.cells #[.bool bq, .slice aq nq cq] 67)).alloc (.cells #[.bool false, .slice ar nr cr] 67)) _ _ _ := ((hQ1.alloc _).alloc _)
    have hst := int_stored2 (x := bq) (y := false) (a := aq) (b := ar) (n := nq) (c := cq) (k := nr) (d := cr) hP hQ (show w.heap.size + 1 + 1 ≠ w.heap.size + 1 + 1 + 1 by omega) hmc (show w.heap.size ≤ w.heap.size + 1 + 1 by omega) (show w.heap.size ≤ w.heap.size + 1 + 1 + 1 by omega) hbl3
    obtain ⟨-, -, -, -, q4, q5, -⟩ := HS.out
    clear hbr hn hq hr
    go_wp2_with fail
    go_region_held3 (fun w' => w'.cell? ⟨w1.heap.size, 0, none⟩ = some (.bool bq) ∧ w'.cell? ⟨w1.heap.size, 1, none⟩ = some (.slice aq nq cq) ∧ w'.cell? ⟨w1.heap.size + 1, 0, none⟩ = some (.bool false) ∧ w'.cell? ⟨w1.heap.size + 1, 1, none⟩ = some (.slice ar nr cr) ∧ w'.cell? ⟨w.heap.size + 1, 0, none⟩ = some (.bool false) ∧ w'.cell? ⟨w.heap.size + 1, 1, none⟩ = some (.slice ab nb cb) ∧ Mod [] w w' ∧ IntBlk w' (w.heap.size + 1 + 1) ∧ IntBlk w' (w.heap.size + 1 + 1 + 1))
      (first | exact Held2.drew HS.out | exact Held2.storeD (l := [(_, _, _), (_, _, _), (_, _, _)]) (by intro x hx; simp only [List.mem_cons, List.not_mem_nil, or_false] at hx; rcases hx with rfl | rfl | rfl <;> (dsimp only; omega)) (by omega) (by assumption))
      (fail)
    go_wp2_with fail
    refine bodyPost_ret (results_int2 rfl rfl rfl (int_at_drew hst.2.1) (int_at_drew hst.2.2.1)) rfl ?_
    refine ⟨_, _, _, rfl, hst.1.drew, (hst.2.2.2 _ _ hq1).mod (Mod.refl [] _).drew, ?_⟩
    have := HE.out
    rw [if_neg (by have h9 := HN.out; omega)] at this
    rw [this]
    exact (hst.2.2.2 _ _ hr1).mod (Mod.refl [] _).drew
end Go.Proofs.YtkhopfobjijnlaaGreatDoor
