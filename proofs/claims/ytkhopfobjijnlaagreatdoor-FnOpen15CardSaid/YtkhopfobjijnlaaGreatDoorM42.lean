/- The specification's PowerOf, Opened, Decoded15; laws.plain. -/
import Derived.Test.YtkhopfobjijnlaaGreatDoorM23
import Derived.Test.YtkhopfobjijnlaaGreatDoorM30
import Derived.Test.YtkhopfobjijnlaaGreatDoorM41
set_option linter.all false
set_option exponentiation.threshold 7000000
namespace Go.Proofs.YtkhopfobjijnlaaGreatDoor
set_option exponentiation.threshold 7000000
open Go.RowKit

theorem NatV.lim4000 {a : Nat} (h : blen a ≤ 4000) : a < lim := by
  have h1 := lt_two_blen a
  have h2 : 2 ^ blen a ≤ 2 ^ (16 * 20000) := Nat.pow_le_pow_right (by omega) (by omega)
  rw [Nat.pow_mul] at h2
  rw [lim_eq]
  exact Nat.lt_of_lt_of_le h1 h2

set_option maxRecDepth 100000 in
theorem c_plain (va : Value) (a : Nat) (w : World) (ha : NatV w va a) (la : blen a ≤ 4000) : Calls Tryz.prog 13 #[va] w fun e w' => ∃ v B, e = .returned v ∧ Mod [] w w' ∧ ByV w' v B ∧ B.length = (blen a + 7) / 8 ∧ bval B = a := by
  have C1 := hide (n_Length va a w ha (NatV.lim4000 la))
  have C2 := hide (fun w' (m : Mod [] w w') => n_Bytes va a ((blen a + 7) / 8) w' (ha.mod m) (by omega) (lt_size_self a))
  obtain ⟨L, hL⟩ : ∃ L, L = (blen a + 7) / 8 := ⟨_, rfl⟩
  rw [← hL] at C1 C2 ⊢
  clear hL la ha
  go_enter Tryz.func13, Tryz.ntmps13
  go_wp2_with fail
  refine C1.out.mono ?_
  rintro e w1 ⟨rfl, m1⟩
  go_wp2_with fail
  refine (C2.out _ m1).mono ?_
  rintro e w2 ⟨v, B, rfl, m2, h⟩
  have m12 := m1.then m2
  have H := hide h
  clear h
  go_wp2_with fail
  go_ret
  exact ⟨v, B, rfl, m12, H.out⟩

set_option maxRecDepth 100000 in
theorem c_PowerOf (vx ve vn : Value) (X : List Nat) (ev n : Nat) (w : World) (hx : ByV w vx X) (he : NatV w ve ev) (hn : NatV w vn n) (lX : X.length ≤ 5000) (le : ev < lim) (ln : blen n ≤ 4000) (n0 : n ≠ 0) :
    Calls Tryz.prog 15 #[vx, ve, vn] w fun e w' => Mod [] w w' ∧ ((bval X < n ∧ ∃ v B, e = .returned (.tuple #[v, .bool true]) ∧ ByV w' v B ∧ B.length = (blen n + 7) / 8 ∧ bval B = bval X ^ ev % n) ∨ (n ≤ bval X ∧ e = .returned (.tuple #[.slice none 0 0, .bool false]))) := by
  have lxl : bval X < lim := by
    have h1 := bseg_lt hx.2.1 X.length X.length
    have h2 : 256 ^ X.length ≤ 256 ^ 40000 := Nat.pow_le_pow_right (by omega) (by omega)
    rw [lim_eq, show (65536 : Nat) = 256 ^ 2 by rfl, ← Nat.pow_mul]
    exact Nat.lt_of_lt_of_le h1 h2
  have lnl := NatV.lim4000 ln
  have lmod : bval X ^ ev % n < 256 ^ ((blen n + 7) / 8) := lt_size (Nat.mod_lt _ (by omega))
  have C1 := hide (n_OfBytes vx X w hx.1 hx.2.1 (by omega))
  have C2 := hide (fun w' (m : Mod [] w w') v (h : NatV w' v (bval X)) => n_Cmp v vn (bval X) n w' h (hn.mod m) lxl)
  have C3 := hide (fun w' (m : Mod [] w w') v (h : NatV w' v (bval X)) => n_PowerMod v ve vn (bval X) ev n w' h (he.mod m) (hn.mod m) lxl le lnl n0)
  have C4 := hide (fun w' (m : Mod [] w w') => n_Length vn n w' (hn.mod m) lnl)
  have C5 := hide (fun w' v (h : NatV w' v (bval X ^ ev % n)) => n_Bytes v (bval X ^ ev % n) ((blen n + 7) / 8) w' h (by omega) lmod)
  obtain ⟨L, hL⟩ : ∃ L, L = (blen n + 7) / 8 := ⟨_, rfl⟩
  rw [← hL] at C4 C5 ⊢
  obtain ⟨xv, hxv⟩ : ∃ x, x = bval X := ⟨_, rfl⟩
  rw [← hxv] at C1 C2 C3 C5 ⊢
  obtain ⟨P, hP⟩ : ∃ P, P = xv ^ ev % n := ⟨_, rfl⟩
  rw [← hP] at C3 C5 ⊢
  by_cases hlt : xv < n
  · have hc : cmpV xv n = -1 := if_pos hlt
    have HLT := hide hlt
    rw [hc] at C2
    clear hlt hc hL hxv hP lmod lnl lxl hx he hn lX le ln n0
    go_enter Tryz.func15, Tryz.ntmps15
    go_wp2_with fail
    refine C1.out.mono ?_
    rintro e w1 ⟨v1, rfl, m1, h1⟩
    go_wp2_with fail
    refine (C2.out _ m1 _ h1).mono ?_
    rintro e w2 ⟨rfl, m2⟩
    have m02 := m1.then m2
    go_wp2_with fail
    refine (C3.out _ m02 _ (h1.mod m2)).mono ?_
    rintro e w3 ⟨v3, rfl, m3, h3⟩
    have m03 := m02.then m3
    go_wp2_with fail
    refine (C4.out _ m03).mono ?_
    rintro e w4 ⟨rfl, m4⟩
    have m04 := m03.then m4
    go_wp2_with fail
    refine (C5.out _ _ (h3.mod m4)).mono ?_
    rintro e w5 ⟨v5, B, rfl, m5, h5⟩
    have m05 := m04.then m5
    have H := hide h5
    clear h5
    go_wp2_with fail
    go_ret2
    exact ⟨m05, .inl ⟨HLT.out, v5, B, rfl, H.out⟩⟩
  · have hc : ¬ cmpV xv n < 0 := by unfold cmpV; rw [if_neg hlt]; split <;> omega
    obtain ⟨cv, hcv⟩ : ∃ c, c = cmpV xv n := ⟨_, rfl⟩
    rw [← hcv] at C2 hc
    have hc2 : (0 : Int) ≤ cv := by omega
    have HLT := hide hlt
    clear hlt hcv hL hxv hP lmod lnl lxl hx he hn lX le ln n0 hc
    go_enter Tryz.func15, Tryz.ntmps15
    go_wp2_with fail
    refine C1.out.mono ?_
    rintro e w1 ⟨v1, rfl, m1, h1⟩
    go_wp2_with fail
    refine (C2.out _ m1 _ h1).mono ?_
    rintro e w2 ⟨rfl, m2⟩
    have m02 := m1.then m2
    go_wp2_with fail
    go_ret2
    exact ⟨m02, .inr ⟨by have := HLT.out; omega, rfl⟩⟩

set_option maxRecDepth 100000 in
theorem c_Opened (vN vD vP vQ vc : Value) (C : List Nat) (d n : Nat) (e5 : Int) (w : World) (hc : ByV w vc C) (hd : NatV w vD d) (hn : NatV w vN n) (lC : C.length = (blen n + 7) / 8) (ld : d < lim) (ln : blen n ≤ 4000) (n0 : n ≠ 0) :
    Calls Tryz.prog 6 #[.agg #[vN, vD, vP, vQ, .int .i64 e5], vc] w fun e w' => Mod [] w w' ∧ ((bval C < n ∧ ∃ v B, e = .returned (.tuple #[v, .bool true]) ∧ ByV w' v B ∧ B.length = (blen n + 7) / 8 ∧ bval B = bval C ^ d % n) ∨ (n ≤ bval C ∧ e = .returned (.tuple #[.slice none 0 0, .bool false]))) := by
  have C1 := hide (fun w' (m : Mod [] w w') => n_Length vN n w' (hn.mod m) (NatV.lim4000 ln))
  have C2 := hide (fun w' (m : Mod [] w w') => c_PowerOf vc vD vN C d n w' (hc.mod m) (hd.mod m) (hn.mod m) (by omega) ld ln n0)
  obtain ⟨ac, cc, rfl⟩ := SliceB.isSlice hc.1
  have hA := Blk.new w 27 [vN, vD, vP, vQ, .int .i64 e5]
  have m0 : Mod [] w (w.alloc (.cells #[vN, vD, vP, vQ, .int .i64 e5] 27)) := (Mod.refl [] w).alloc _
  have q0 : (w.alloc (.cells #[vN, vD, vP, vQ, .int .i64 e5] 27)).cell? ⟨w.heap.size, 0, none⟩ = some vN := by rw [hA.cell]; rfl
  have q1 : (w.alloc (.cells #[vN, vD, vP, vQ, .int .i64 e5] 27)).cell? ⟨w.heap.size, 1, none⟩ = some vD := by rw [hA.cell]; rfl
  obtain ⟨aN, kN, cN, rfl⟩ := hn.lit
  obtain ⟨aD, kD, cD, rfl⟩ := hd.lit
  have HL := hide lC
  rw [← lC] at C1 C2 ⊢
  clear hc hd hn lC ld ln n0 hA
  go_enter Tryz.func6, Tryz.ntmps6
  go_wp2_with fail
  refine (C1.out _ m0).mono ?_
  rintro e w1 ⟨rfl, m1⟩
  have m01 := m0.then m1
  replace q0 := cell_up q0 m1
  replace q1 := cell_up q1 m1
  go_wp2_with fail
  refine (C2.out _ m01).mono ?_
  rintro e w2 ⟨m2, h2⟩
  have m02 := m01.then m2
  rcases h2 with ⟨hlt, v, B, rfl, h⟩ | ⟨hlt, rfl⟩
  · have H := hide h
    have HLT := hide hlt
    clear h hlt
    go_wp2_with fail
    go_ret2
    exact ⟨m02, .inl ⟨HLT.out, v, B, rfl, H.out⟩⟩
  · have HLT := hide hlt
    clear hlt
    go_wp2_with fail
    go_ret2
    exact ⟨m02, .inr ⟨HLT.out, rfl⟩⟩

set_option maxRecDepth 100000 in
set_option maxHeartbeats 2000000 in
theorem c_Decoded (vb : Value) (B : List Nat) (w : World) (hb : ByV w vb B) (hl : 11 ≤ B.length) (hbig : B.length ≤ 100000) :
    Calls Tryz.prog 7 #[vb] w fun e w' => w = w' ∧ ∃ v, e = .returned (.tuple #[v, .bool (pad15 B)]) ∧ (pad15 B = true → SliceB w' v (B.drop (zpos B + 1))) := by
  obtain ⟨b, o, c, rfl, hc, hcb⟩ : ∃ b o c, vb = sl b o B.length c ∧ B.length ≤ c ∧ CellsB w b o B := by
    rcases hb.1 with ⟨e, h⟩ | ⟨a, c, e, h⟩ | h
    · rw [h] at hl; simp at hl
    · rw [h] at hl; simp at hl
    · exact h
  obtain ⟨z1, z2, z3, z4⟩ := zpos_spec (B := B) (by omega)
  obtain ⟨R, hR⟩ : ∃ R, R = pad15 B := ⟨_, rfl⟩
  have HR : Hid (R = (decide (nth B 0 = 0) && decide (nth B 1 = 2) && decide (zpos B < B.length) && decide (10 ≤ zpos B))) := hide (by rw [hR]; rfl)
  rw [← hR]
  obtain ⟨n, hn⟩ : ∃ n, n = B.length := ⟨_, rfl⟩
  have HS1 : Hid (∀ k cc, k < n → k = zpos B → SliceB w (.slice (some ⟨b, o + (k + 1), none⟩) (n - (k + 1)) (cc - (k + 1))) (B.drop (zpos B + 1)) ∨ cc < n) := hide (by
    intro k cc hk hz
    rcases Nat.lt_or_ge cc n with h | h
    · exact .inr h
    · refine .inl (.inr (.inr ⟨b, o + (k + 1), cc - (k + 1), ?_, ?_, ?_⟩))
      · rw [List.length_drop, ← hz, ← hn]
      · rw [List.length_drop, ← hz, ← hn]; omega
      · intro i hi
        rw [List.length_drop, ← hz, ← hn] at hi
        have := hcb (k + 1 + i) (by omega)
        rw [← Nat.add_assoc] at this
        rw [this]
        unfold nth
        rw [List.getD_eq_getElem?_getD, List.getD_eq_getElem?_getD, List.getElem?_drop, ← hz])
  have HB : Hid (∀ i, i < n → w.cell? ⟨b, o + i, none⟩ = some (u8 (nth B i))) := hide (by rw [hn]; exact hcb)
  have HY := hide hb.2.1
  have c0 := HB.out 0 (by omega)
  rw [Nat.add_zero] at c0
  have c1 := HB.out 1 (by omega)
  obtain ⟨b0, hb0⟩ : ∃ x, x = nth B 0 := ⟨_, rfl⟩
  obtain ⟨b1, hb1⟩ : ∃ x, x = nth B 1 := ⟨_, rfl⟩
  rw [← hb0] at c0 HR
  rw [← hb1] at c1 HR
  obtain ⟨z, hz⟩ : ∃ z, z = zpos B := ⟨_, rfl⟩
  rw [← hz] at z1 z2 z3 z4 HS1 HR ⊢
  rw [← hn] at z2 z3 hl hbig hc HR ⊢
  have HZ3 := hide z3
  have HZ4 := hide z4
  have HN := hide hn
  have g0 : ¬ (n : Int) < 11 := by omega
  have g1 : (0 : Int) < (n : Int) := by omega
  have g2 : (1 : Int) < (n : Int) := by omega
  clear hR hn hb hcb hb0 hb1 hz z3 z4
  by_cases e0 : b0 = 0
  · by_cases e1 : b1 = 2
    · subst e0 e1
      go_enter Tryz.func7, Tryz.ntmps7
      go_wp2_with fail
      go_loop [4] (fun i => ∃ k : Nat, 2 ≤ k ∧ k ≤ n ∧ k ≤ z ∧ i = i64 k) (fun i => n - (intOf i).toNat)
      case atStart => exact ⟨2, Nat.le_refl _, by omega, z1, rfl⟩
      case round =>
        obtain ⟨k, hk2, hkn, hkz, rfl⟩ := hrel
        rcases Nat.lt_or_ge k n with hlt | hge
        · have hci := HB.out k hlt
          have gk : (k : Int) < (n : Int) := by omega
          by_cases h0 : nth B k = 0
          · have hzk : k = z := by
              rcases Nat.lt_or_ge k z with h | h
              · exact absurd h0 (HZ4.out k hk2 h)
              · omega
            subst hzk
            rw [h0] at hci
            have gk1 : (k : Int) + 1 ≤ (n : Int) := by omega
            have HR2 : Hid (R = decide (10 ≤ k)) := hide (by rw [HR.out]; simp [hlt])
            have HS2 : Hid (SliceB w (.slice (some ⟨b, o + (k + 1), none⟩) (n - (k + 1)) (c - (k + 1))) (B.drop (k + 1))) := hide ((HS1.out k c hlt rfl).resolve_right (by omega))
            have hd : Hid (Value.bool (decide (10 ≤ (k : Int))) = .bool R) := hide (by rw [HR2.out]; exact congrArg Value.bool (decide_eq_decide.2 (by omega)))
            have HS3 : Hid (∀ a, n ≤ k + 1 → SliceB w (.slice (some a) (n - (k + 1)) 0) (B.drop (k + 1))) := hide fun a h => .inr (.inl ⟨a, 0, by rw [show n - (k + 1) = 0 by omega], List.drop_eq_nil_of_le (by rw [← HN.out]; exact h)⟩)
            clear h0 HR HS1 HZ3 HZ4 HR2
            go_wp2_with fail
            all_goals go_ret2
            all_goals refine ⟨rfl, _, (by rw [← hd.out]; rfl), fun _ => ?_⟩
            all_goals first | exact HS2.out | exact HS3.out _ (by omega)
          · have hkz2 : k ≠ z := fun h => h0 (by rw [h]; exact HZ3.out (by omega))
            have e2 : ((nth B k : Int) == 0) = false := by rw [beq_eq_false_iff_ne]; omega
            have hkz3 : k + 1 ≤ z := by omega
            clear h0
            go_wp2_with fail
            go_round
            case rel => exact ⟨k + 1, by omega, by omega, hkz3, by go_num⟩
            case measure => simp [intOf]; omega
        · obtain rfl : k = n := by omega
          have gk : ¬ (k : Int) < (k : Int) := by omega
          have HR2 : Hid (R = false) := hide (by rw [HR.out]; simp [Nat.not_lt.2 hkz])
          clear HS1 HZ3 HZ4 HR
          go_wp2_with fail
          go_ret2
          rw [HR2.out]
          exact ⟨rfl, _, rfl, fun h => by simp at h⟩
    · have e2 : ((b1 : Int) == 2) = false := by rw [beq_eq_false_iff_ne]; omega
      have HR2 : Hid (R = false) := hide (by rw [HR.out]; simp [e1])
      clear HS1 HZ3 HZ4 HR e1
      subst e0
      go_enter Tryz.func7, Tryz.ntmps7
      go_wp2_with fail
      go_ret2
      rw [HR2.out]
      exact ⟨rfl, _, rfl, fun h => by simp at h⟩
  · have e2 : ((b0 : Int) == 0) = false := by rw [beq_eq_false_iff_ne]; omega
    have HR2 : Hid (R = false) := hide (by rw [HR.out]; simp [e0])
    clear HS1 HZ3 HZ4 HR e0
    go_enter Tryz.func7, Tryz.ntmps7
    go_wp2_with fail
    go_ret2
    rw [HR2.out]
    exact ⟨rfl, _, rfl, fun h => by simp at h⟩
end Go.Proofs.YtkhopfobjijnlaaGreatDoor
