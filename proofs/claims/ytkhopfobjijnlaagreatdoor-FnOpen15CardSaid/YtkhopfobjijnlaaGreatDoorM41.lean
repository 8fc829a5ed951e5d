/- spec.Inverse. rsa15's Unpad. -/
import Derived.Test.YtkhopfobjijnlaaGreatDoorM40
import Derived.Test.YtkhopfobjijnlaaGreatDoorM23
import Derived.Test.YtkhopfobjijnlaaGreatDoorM30
set_option linter.all false
set_option exponentiation.threshold 7000000
namespace Go.Proofs.YtkhopfobjijnlaaGreatDoor
open Go.RowKit

theorem inv_law {p q : Int} {e m d : Nat} (h : p * e + q * m = 1) (hd : (d : Int) = p % (m : Int)) : e * d % m = 1 % m := by
  have h1 : ((e * d : Nat) : Int) % (m : Int) = 1 % (m : Int) := by
    rw [Int.natCast_mul, hd, Int.mul_emod, Int.emod_emod, ← Int.mul_emod]
    have : (e : Int) * p = 1 + (m : Int) * (-q) := by rw [Int.mul_comm]; have := h; grind
    rw [this, Int.add_mul_emod_self_left]
  have h2 : ((e * d % m : Nat) : Int) = ((1 % m : Nat) : Int) := by rw [Int.natCast_emod, h1, Int.natCast_emod]; rfl
  exact Int.ofNat.inj h2

set_option maxRecDepth 100000 in
set_option maxHeartbeats 4000000 in
theorem c_Inverse (va vm : Value) (ev m : Nat) (w : World) (ha : IntIs w va (ev : Int)) (hm : NatV w vm m) (e0 : 0 < ev) (em : ev < m) (lm : m + m + 2 < lim) :
    Calls Tryz.prog 31 #[va, vm] w fun e w' => ∃ vd d, e = .returned (.tuple #[vd, .bool (decide (Nat.gcd ev m = 1))]) ∧ Mod [] w w' ∧ NatV w' vd d ∧ d < m ∧ (Nat.gcd ev m = 1 → ev * d % m = 1 % m) := by
  obtain ⟨R, hR⟩ : ∃ R, R = decide (Nat.gcd ev m = 1) := ⟨_, rfl⟩
  rw [← hR]
  have HR := hide hR
  clear hR
  obtain ⟨ba, aa, na, ca, rfl⟩ := ha.lit
  obtain ⟨M, sM, cM, eM⟩ := hm
  have hA := Blk.new w 67 [.bool ba, .slice aa na ca]
  have m0 : Mod [] w (w.alloc (.cells #[.bool ba, .slice aa na ca] 67)) := (Mod.refl [] w).alloc _
  obtain ⟨f0, f1, f2, f3⟩ := int_cells hA
  have C1 := hide (fun w' (mm : Mod [] w w') => c_Below _ vm (ev : Int) M w' (ha.mod mm) (sM.mod mm (by simp)) cM (by simp; omega) (by omega) (by omega))
  have C2 := hide (fun w' v L (h : SliceK i64 w' v L) (c : Canon L) => c_Make false v L w' h c)
  have C3 := hide (fun w' (mm : Mod [] w w') => c_Make false vm M w' (sM.mod mm (by simp)) cM)
  have C4 := hide (fun w' va vb (h1 : IntIs w' va ((ev : Nat) : Int)) (h2 : IntIs w' vb ((m : Nat) : Int)) => c_Bezout va vb ev m w' h1 h2 e0 (by omega) (by omega))
  have C5 := hide (fun w' (mm : Mod [] w w') v (p : Int) (h : IntIs w' v p) (hp : p.natAbs ≤ m + 1) => c_Below v vm p M w' h (sM.mod mm (by simp)) cM (by omega) (by omega) (by omega))
  have HM := hide eM
  have hem : Hid (((ev : Int) % ((m : Nat) : Int)) = (ev : Int)) := hide (Int.emod_eq_of_lt (by omega) (by omega))
  have HLM := hide lm
  have HEM := hide em
  have HE0 := hide e0
  have HMS := hide sM
  clear ha sM eM e0 em lm
  go_enter Tryz.func31, Tryz.ntmps31
  go_wp2_with fail
  refine (C1.out _ m0).mono ?_
  rintro e w1 ⟨v1, L1, rfl, m1, s1, c1, e1⟩
  rw [HM.out, hem.out] at e1
  have E1 := hide (show valS L1 = ev by omega)
  have m01 := m0.then m1
  clear e1 m0 m1 f0 f1 f2 f3 hA
  go_wp2_with fail
  refine (C2.out _ v1 L1 s1 c1).mono ?_
  rintro e w2 ⟨v2, rfl, m2, i2⟩
  rw [if_neg (by simp), E1.out] at i2
  have m02 := m01.then m2
  go_wp2_with fail
  refine (C3.out _ m02).mono ?_
  rintro e w3 ⟨v3, rfl, m3, i3⟩
  rw [if_neg (by simp), HM.out] at i3
  have m03 := m02.then m3
  go_wp2_with fail
  refine (C4.out _ v2 v3 (i2.mod m3) i3).mono ?_
  rintro e w4 ⟨vg, vp, vq, G, p, q, rfl, m4, sG, cG, eG, ip, iq_, hpq, hp⟩
  have m04 := m03.then m4
  obtain ⟨b4, a4, n4, c4, rfl⟩ := ip.lit
  obtain ⟨b5, a5, n5, c5, rfl⟩ := iq_.lit
  have EG := hide eG
  have HPQ := hide hpq
  have HP := hide hp
  clear eG hpq hp s1 c1 i2 i3 m01 m02 m03 m2 m3 m4
  have hN := int_new2 ip iq_
  have nz1 : IntBox (w4.alloc (.cells #[.bool b4, .slice a4 n4 c4] 67)) w4.heap.size p := intBox_new2 rfl ip
  have B1 := (Blk.new w4 67 [.bool b4, .slice a4 n4 c4]).alloc (.cells #[.bool b5, .slice a5 n5 c5] 67)
  obtain ⟨g0, g1, g2, g3⟩ := int_cells B1
  have m5 : Mod [] w ((w4.alloc (.cells #[.bool b4, .slice a4 n4 c4] 67)).alloc (.cells #[.bool b5, .slice a5 n5 c5] 67)) := (m04.alloc _).alloc _
  clear hN nz1
  go_wp2_with fail
  refine (C5.out _ m5 _ p (ip.mod (((Mod.refl [] _).alloc _).alloc _)) HP.out).mono ?_
  rintro e w6 ⟨v6, L6, rfl, m6, s6, c6, e6⟩
  have E6 := hide e6
  have m06 := m5.then m6
  clear e6 g0 g1 g2 g3 B1
  go_wp2_with fail
  refine (c_Small 1 (by decide) _).mono ?_
  rintro e w7 ⟨v7, L7, rfl, m7, o7, c7, e7⟩
  have E7 := hide e7
  have m07 := m06.then m7
  clear e7
  have sG7 := ((sG.mod (((Mod.refl [] _).alloc _).alloc _) (by simp)).mod m6 (by simp)).mod m7 (by simp)
  have CC := hide (c_Cmp vg v7 G L7 w7 sG7 o7.slice cG c7 (Nat.le_trans (cG.lim (by rw [EG.out]; have h1 := HLM.out; have h2 := HEM.out; have h3 := Nat.gcd_le_left m HE0.out; omega)) (by omega)))
  go_wp2_with fail
  refine CC.out.mono ?_
  rintro e w8 ⟨rfl, m8⟩
  have m08 := m07.then m8
  rw [EG.out, E7.out]
  have hfin : NatV w8 v6 (valS L6) := ⟨L6, (s6.mod m7 (by simp)).mod m8 (by simp), c6, rfl⟩
  have hlt : valS L6 < m := by have h1 := E6.out; rw [HM.out] at h1; have h2 := Int.emod_lt_of_pos p (show (0 : Int) < (m : Int) by have := HEM.out; omega); omega
  have hlaw : Hid (Nat.gcd ev m = 1 → ev * valS L6 % m = 1 % m) := hide fun h => inv_law (p := p) (q := q) (by rw [HPQ.out, h]; rfl) (by rw [E6.out, HM.out])
  have HF := hide hfin
  have HLT := hide hlt
  by_cases hg : Nat.gcd ev m = 1
  · have hc : cmpV (Nat.gcd ev m) 1 = 0 := by rw [hg]; rfl
    rw [hc]
    obtain rfl : R = true := HR.out.trans (decide_eq_true hg)
    clear hc hg hfin hlt
    go_wp2_with fail
    go_ret2
    exact ⟨v6, _, rfl, m08, HF.out, HLT.out, hlaw.out⟩
  · have hc : (cmpV (Nat.gcd ev m) 1 == 0) = false := by
      rw [beq_eq_false_iff_ne]; unfold cmpV
      by_cases h1 : Nat.gcd ev m < 1
      · rw [if_pos h1]; decide
      · rw [if_neg h1, if_pos (by omega)]; decide
    obtain rfl : R = false := HR.out.trans (decide_eq_false hg)
    obtain ⟨cv, hcv⟩ : ∃ cv, cv = cmpV (Nat.gcd ev m) 1 := ⟨_, rfl⟩
    rw [← hcv] at hc ⊢
    clear hg hfin hlt hcv
    go_wp2_with fail
    go_ret2
    exact ⟨v6, _, rfl, m08, HF.out, HLT.out, hlaw.out⟩
end Go.Proofs.YtkhopfobjijnlaaGreatDoor
namespace Go.Proofs.YtkhopfobjijnlaaGreatDoor
open Go.RowKit

/-- The first place from i on, within f places, where a nought stands. -/
def zgo (B : List Nat) : Nat → Nat → Nat
  | i, 0 => i
  | i, f + 1 => if nth B i = 0 then i else zgo B (i + 1) f
def zpos (B : List Nat) : Nat := zgo B 2 (B.length - 2)
theorem zgo_spec (B : List Nat) : ∀ f i, i ≤ zgo B i f ∧ zgo B i f ≤ i + f ∧ (zgo B i f < i + f → nth B (zgo B i f) = 0) ∧ ∀ j, i ≤ j → j < zgo B i f → nth B j ≠ 0 := by
  intro f
  induction f with
  | zero => intro i; simp only [zgo]; exact ⟨Nat.le_refl _, by omega, by omega, by omega⟩
  | succ f ih =>
    intro i
    simp only [zgo]
    by_cases h : nth B i = 0
    · rw [if_pos h]; exact ⟨Nat.le_refl _, by omega, fun _ => h, by omega⟩
    · rw [if_neg h]
      obtain ⟨h1, h2, h3, h4⟩ := ih (i + 1)
      refine ⟨by omega, by omega, fun h => h3 (by omega), fun j hj hl => ?_⟩
      rcases Nat.lt_or_ge i j with h5 | h5
      · exact h4 j h5 hl
      · rw [show j = i by omega]; exact h
theorem zpos_spec {B : List Nat} (h : 2 ≤ B.length) : 2 ≤ zpos B ∧ zpos B ≤ B.length ∧ (zpos B < B.length → nth B (zpos B) = 0) ∧ ∀ j, 2 ≤ j → j < zpos B → nth B j ≠ 0 := by
  obtain ⟨h1, h2, h3, h4⟩ := zgo_spec B (B.length - 2) 2
  rw [show 2 + (B.length - 2) = B.length by omega] at h2 h3
  exact ⟨h1, h2, h3, h4⟩
/-- Whether bytes are an encoding of version 1.5. -/
def pad15 (B : List Nat) : Bool := decide (nth B 0 = 0) && decide (nth B 1 = 2) && decide (zpos B < B.length) && decide (10 ≤ zpos B)

set_option maxRecDepth 100000 in
theorem c_byteEq (x y : Nat) (w : World) : Calls Tryz.prog 40 #[u8 x, u8 y] w fun e w' => e = .returned (i64 (eqB x y)) ∧ w = w' := by
  by_cases h : x = y
  · rw [(eqB_iff x y).1.2 h]
    subst h
    go_enter Tryz.func40, Tryz.ntmps40
    go_wp2_with fail
    go_ret
    exact ⟨rfl, rfl⟩
  · rw [(eqB_iff x y).2 h]
    have e : ((x : Int) == (y : Int)) = false := by rw [beq_eq_false_iff_ne]; omega
    go_enter Tryz.func40, Tryz.ntmps40
    go_wp2_with fail
    go_ret
    exact ⟨rfl, rfl⟩
set_option maxRecDepth 100000 in
theorem c_sel1 (x y : Int) (w : World) : Calls Tryz.prog 41 #[.int .i64 1, .int .i64 x, .int .i64 y] w fun e w' => e = .returned (.int .i64 x) ∧ w = w' := by
  go_enter Tryz.func41, Tryz.ntmps41
  go_wp2_with fail
  go_ret
  exact ⟨rfl, rfl⟩
set_option maxRecDepth 100000 in
theorem c_sel0 (x y : Int) (w : World) : Calls Tryz.prog 41 #[.int .i64 0, .int .i64 x, .int .i64 y] w fun e w' => e = .returned (.int .i64 y) ∧ w = w' := by
  go_enter Tryz.func41, Tryz.ntmps41
  go_wp2_with fail
  go_ret
  exact ⟨rfl, rfl⟩
theorem c_sel (v x y : Int) (h : v = 0 ∨ v = 1) (w : World) : Calls Tryz.prog 41 #[.int .i64 v, .int .i64 x, .int .i64 y] w fun e w' => e = .returned (.int .i64 (if v = 0 then y else x)) ∧ w = w' := by
  rcases h with rfl | rfl
  · exact c_sel0 x y w
  · exact c_sel1 x y w
set_option maxRecDepth 100000 in
theorem c_leq (x y : Nat) (w : World) : Calls Tryz.prog 42 #[i64 x, i64 y] w fun e w' => e = .returned (i64 (if x ≤ y then 1 else 0)) ∧ w = w' := by
  by_cases h : x ≤ y
  · rw [if_pos h]
    have e : (x : Int) ≤ (y : Int) := by omega
    go_enter Tryz.func42, Tryz.ntmps42
    go_wp2_with fail
    go_ret
    exact ⟨rfl, rfl⟩
  · rw [if_neg h]
    have e : ¬ (x : Int) ≤ (y : Int) := by omega
    go_enter Tryz.func42, Tryz.ntmps42
    go_wp2_with fail
    go_ret
    exact ⟨rfl, rfl⟩

theorem and11 : bits .and .i64 1 1 = 1 := by decide
theorem and10 : bits .and .i64 1 0 = 0 := by decide
theorem and01 : bits .and .i64 0 1 = 0 := by decide
theorem xor0 : bits .xor .i64 (-1) 0 = -1 := by decide
theorem xor1 : bits .xor .i64 (-1) 1 = -2 := by decide
theorem andm : bits .and .i64 (-1) 1 = 1 := by decide
theorem andn : bits .and .i64 (-2) 1 = 0 := by decide
theorem and00 : bits .and .i64 0 0 = 0 := by decide

set_option maxRecDepth 100000 in
set_option maxHeartbeats 2000000 in
theorem c_Unpad (b o c : Nat) (B : List Nat) (w : World) (hb : CellsB w b o B) (hl : 11 ≤ B.length) (hbig : B.length ≤ 100000) :
    Calls Tryz.prog 21 #[sl b o B.length c] w fun e w' => e = .returned (.tuple #[i64 (if pad15 B then 1 else 0), i64 (if pad15 B then zpos B + 1 else 0)]) ∧ w = w' := by
  obtain ⟨z1, z2, z3, z4⟩ := zpos_spec (B := B) (by omega)
  obtain ⟨z, hz⟩ : ∃ z, z = zpos B := ⟨_, rfl⟩
  obtain ⟨n, hn⟩ : ∃ n, n = B.length := ⟨_, rfl⟩
  have hp : pad15 B = (decide (nth B 0 = 0) && decide (nth B 1 = 2) && decide (z < n) && decide (10 ≤ z)) := by rw [hz, hn]; rfl
  rw [← hz] at z1 z2 z3 z4 ⊢
  rw [← hn] at z2 z3 hl hbig ⊢
  obtain ⟨R1, hR1⟩ : ∃ R, R = (if pad15 B then 1 else 0) := ⟨_, rfl⟩
  obtain ⟨R2, hR2⟩ : ∃ R, R = (if pad15 B then z + 1 else 0) := ⟨_, rfl⟩
  rw [← hR1, ← hR2]
  have HP := hide (show (pad15 B = false → R1 = 0 ∧ R2 = 0) ∧ (pad15 B = true → R1 = 1 ∧ R2 = z + 1) ∧ pad15 B = (decide (nth B 0 = 0) && decide (nth B 1 = 2) && decide (z < n) && decide (10 ≤ z)) from ⟨fun h => by rw [hR1, hR2, h]; simp, fun h => by rw [hR1, hR2, h]; simp, hp⟩)
  clear hR1 hR2
  have HZ3 := hide z3
  have HZ4 := hide z4
  have HB : Hid (∀ i, i < n → w.cell? ⟨b, o + i, none⟩ = some (u8 (nth B i))) := hide (by rw [hn]; exact hb)
  have c0 := HB.out 0 (by omega)
  rw [Nat.add_zero] at c0
  have c1 := HB.out 1 (by omega)
  have g0 : (0 : Int) < (n : Int) := by omega
  have g1 : (1 : Int) < (n : Int) := by omega
  have a11 := and11
  have a10 := and10
  have a01 := and01
  have a00 := and00
  clear hp hz hn hb z3 z4
  go_enter Tryz.func21, Tryz.ntmps21
  go_wp2_with fail
  refine (c_byteEq (nth B 0) 0 _).mono ?_
  rintro e w' ⟨rfl, rfl⟩
  go_wp2_with fail
  refine (c_byteEq (nth B 1) 2 _).mono ?_
  rintro e w' ⟨rfl, rfl⟩
  clear c0 c1
  go_wp2_with fail
  go_loop [3, 6, 7] (fun ix lo i => ∃ k : Nat, 2 ≤ k ∧ k ≤ n ∧ i = i64 k ∧ lo = .int .i64 (if z < k then 0 else 1) ∧ ix = .int .i64 (if z < k then (z : Int) else 0)) (fun _ _ i => n - (intOf i).toNat)
  case atStart => exact ⟨2, Nat.le_refl _, by omega, rfl, by rw [if_neg (by omega)], by rw [if_neg (by omega)]⟩
  case round =>
    obtain ⟨k, hk2, hkn, rfl, rfl, rfl⟩ := hrel
    rcases Nat.lt_or_ge k n with hlt | hge
    · have hci := HB.out k hlt
      have gk : (k : Int) < (n : Int) := by omega
      rcases Nat.lt_trichotomy z k with hz | hz | hz
      · rw [if_pos hz, if_pos hz]
        go_wp2_with fail
        refine (c_byteEq (nth B k) 0 _).mono ?_
        rintro e w' ⟨rfl, rfl⟩
        rcases (by by_cases h : nth B k = 0; exact .inl ((eqB_iff _ _).1.2 h); exact .inr ((eqB_iff _ _).2 h) : eqB (nth B k) 0 = 1 ∨ eqB (nth B k) 0 = 0) with h | h
        · rw [h]
          clear h
          go_wp2_with fail
          refine (c_sel0 (k : Int) (z : Int) _).mono ?_
          rintro e w' ⟨rfl, rfl⟩
          go_wp2_with fail
          refine (c_sel1 0 0 _).mono ?_
          rintro e w' ⟨rfl, rfl⟩
          go_wp2_with fail
          go_round
          case rel => exact ⟨k + 1, by omega, by omega, by go_num, by rw [if_pos (by omega)], by rw [if_pos (by omega)]⟩
          case measure => simp [intOf]; omega

        · rw [h]
          clear h
          go_wp2_with fail
          refine (c_sel0 (k : Int) (z : Int) _).mono ?_
          rintro e w' ⟨rfl, rfl⟩
          go_wp2_with fail
          refine (c_sel0 0 0 _).mono ?_
          rintro e w' ⟨rfl, rfl⟩
          go_wp2_with fail
          go_round
          case rel => exact ⟨k + 1, by omega, by omega, by go_num, by rw [if_pos (by omega)], by rw [if_pos (by omega)]⟩
          case measure => simp [intOf]; omega

      · have h := (eqB_iff (nth B k) 0).1.2 (by rw [← hz]; exact HZ3.out (by omega))
        rw [if_neg (by omega), if_neg (by omega)]
        go_wp2_with fail
        refine (c_byteEq (nth B k) 0 _).mono ?_
        rintro e w' ⟨rfl, rfl⟩
        rw [h]
        clear h
        go_wp2_with fail
        refine (c_sel1 (k : Int) 0 _).mono ?_
        rintro e w' ⟨rfl, rfl⟩
        go_wp2_with fail
        refine (c_sel1 0 1 _).mono ?_
        rintro e w' ⟨rfl, rfl⟩
        go_wp2_with fail
        go_round
        case rel => exact ⟨k + 1, by omega, by omega, by go_num, by rw [if_pos (by omega)], by rw [if_pos (by omega), hz]⟩
        case measure => simp [intOf]; omega

      · have h := (eqB_iff (nth B k) 0).2 (HZ4.out k hk2 hz)
        rw [if_neg (by omega), if_neg (by omega)]
        go_wp2_with fail
        refine (c_byteEq (nth B k) 0 _).mono ?_
        rintro e w' ⟨rfl, rfl⟩
        rw [h]
        clear h
        go_wp2_with fail
        refine (c_sel0 (k : Int) 0 _).mono ?_
        rintro e w' ⟨rfl, rfl⟩
        go_wp2_with fail
        refine (c_sel0 0 1 _).mono ?_
        rintro e w' ⟨rfl, rfl⟩
        go_wp2_with fail
        go_round
        case rel => exact ⟨k + 1, by omega, by omega, by go_num, by rw [if_neg (by omega)], by rw [if_neg (by omega)]⟩
        case measure => simp [intOf]; omega

    · obtain rfl : k = n := by omega
      have gk : ¬ (k : Int) < (k : Int) := by omega
      have hF : Hid (∀ f s v : Nat, (f = 1 ↔ nth B 0 = 0) → (s = 1 ↔ nth B 1 = 2) → (v = 1 ↔ (z < k ∧ 10 ≤ z)) → (f = 0 ∨ s = 0 ∨ v = 0 → R1 = 0 ∧ R2 = 0) ∧ (f = 1 → s = 1 → v = 1 → R1 = 1 ∧ R2 = z + 1)) := by
        refine hide fun f s v h1 h2 h3 => ?_
        suffices hh : (f = 0 ∨ s = 0 ∨ v = 0 → pad15 B = false) ∧ (f = 1 → s = 1 → v = 1 → pad15 B = true) from ⟨fun h => HP.out.1 (hh.1 h), fun a b c => HP.out.2.1 (hh.2 a b c)⟩
        rw [HP.out.2.2]
        by_cases e1 : nth B 0 = 0 <;> by_cases e2 : nth B 1 = 2 <;> by_cases e3 : z < k <;> by_cases e4 : 10 ≤ z <;> simp [e1, e2, e3, e4] at h1 h2 h3 ⊢ <;> omega
      obtain ⟨f, hf, hf1, hf2⟩ : ∃ f, eqB (nth B 0) 0 = f ∧ (f = 1 ↔ nth B 0 = 0) ∧ (f = 0 ∨ f = 1) := by
        refine ⟨_, rfl, (eqB_iff _ _).1, ?_⟩
        unfold eqB; split <;> simp
      obtain ⟨s, hs, hs1, hs2⟩ : ∃ f, eqB (nth B 1) 2 = f ∧ (f = 1 ↔ nth B 1 = 2) ∧ (f = 0 ∨ f = 1) := by
        refine ⟨_, rfl, (eqB_iff _ _).1, ?_⟩
        unfold eqB; split <;> simp
      rw [hf, hs]
      have HF := fun v => hide (hF.out f s v hf1 hs1)
      clear hf hs hf1 hs1 hF HP HZ3 HZ4 HB
      rcases Nat.lt_or_ge z k with hz | hz
      · rw [if_pos hz, if_pos hz]
        go_wp2_with fail
        refine (c_leq 10 z _).mono ?_
        rintro e w' ⟨rfl, rfl⟩
        have HV := HF (if 10 ≤ z then 1 else 0)
        have hv : (if 10 ≤ z then 1 else 0) = 1 ↔ (z < k ∧ 10 ≤ z) := by by_cases h : 10 ≤ z <;> simp [h, hz]
        obtain ⟨v, hv0, hv2⟩ : ∃ v, (if 10 ≤ z then 1 else 0) = v ∧ (v = 0 ∨ v = 1) := ⟨_, rfl, by split <;> simp⟩
        rw [hv0] at hv HV ⊢
        have HW := hide (HV.out hv)
        clear HV HF hv hv0
        rcases hf2 with rfl | rfl <;> rcases hs2 with rfl | rfl <;> rcases hv2 with rfl | rfl
        all_goals go_wp2_with fail
        all_goals simp only [xor0, xor1, andm, andn, and11, and10, and01, and00]
        all_goals refine (c_sel _ ((z : Int) + 1) 0 (by simp) _).mono ?_
        all_goals rintro e w' ⟨rfl, rfl⟩
        all_goals go_wp2_with fail
        all_goals go_ret2
        all_goals (have h := HW.out; simp at h; obtain ⟨e1, e2⟩ := h; rw [e1, e2]; exact ⟨by simp, rfl⟩)
      · rw [if_neg (by omega), if_neg (by omega)]
        go_wp2_with fail
        refine (c_leq 10 0 _).mono ?_
        rintro e w' ⟨rfl, rfl⟩
        have HW := hide ((HF 0).out (by simp; omega))
        clear HF
        rcases hf2 with rfl | rfl <;> rcases hs2 with rfl | rfl
        all_goals go_wp2_with fail
        all_goals simp only [xor0, xor1, andm, andn, and11, and10, and01, and00]
        all_goals refine (c_sel _ 1 0 (by simp) _).mono ?_
        all_goals rintro e w' ⟨rfl, rfl⟩
        all_goals go_wp2_with fail
        all_goals go_ret2
        all_goals (have h := HW.out; simp at h; obtain ⟨e1, e2⟩ := h; rw [e1, e2]; exact ⟨by simp, rfl⟩)
end Go.Proofs.YtkhopfobjijnlaaGreatDoor
