/- spec.Public, laws.alive, laws.FnKey. -/
import Derived.Test.YtgejcabgcemllaaSpecE
namespace Go.Proofs.Ytgejcabgcemllaa
open Go.RowKit

theorem cmpV_one (a : Nat) : (0 < cmpV a 1) ↔ 1 < a := by
  unfold cmpV
  split
  · omega
  · split <;> omega

theorem Own.kept {k : Nat → Value} {w w' : World} {v : Value} {L : List Nat} (h : SliceK k w v L) (m : Mod [] w w') : SliceK k w' v L := h.mod m (by simp)

set_option maxRecDepth 100000 in
set_option maxHeartbeats 1600000 in
theorem c_specPublic (v : Value) (ex : Int) (B : List Nat) (w : World) (hb : SliceB w v B) (hB : Bytes B) (hbig : B.length ≤ 512) :
    Calls Try.prog 6 #[v, .int .i64 ex] w fun e w' => e = .returned (.bool (keyOk (bval B) ex)) ∧ Mod [] w w' := by
  go_enter Try.func6, Try.ntmps6
  go_wp2_with fail
  refine (c_OfBytes v B _ hb hB (by omega)).mono ?_
  rintro e w1 ⟨vn, L, rfl, m1, s1, cn, hvn, hl⟩
  have HV := hide hvn
  clear hvn
  go_wp2_with fail
  refine (c_Small 1 (by omega) _).mono ?_
  rintro e w2 ⟨v1, L1, rfl, m2, o1, c1, hv1⟩
  have hl1 : L1.length ≤ 1000000 := by
    rcases Nat.lt_or_ge L1.length 2 with h | h
    · omega
    · have h1 := valS_ge c1 (by omega)
      rw [hv1] at h1
      have h2 : 65536 ^ 1 ≤ 65536 ^ (L1.length - 1) := Nat.pow_le_pow_right (by omega) (by omega)
      omega
  have s2 := s1.mod m2 (by simp)
  have HV1 := hide hv1
  clear hv1
  have m12 : Mod [] w w2 := Mod.trans (U := []) m1 m2 (by simp) (by simp)
  go_wp2_with fail
  refine (c_Cmp vn v1 L L1 _ s2 o1.slice cn c1 hl).mono ?_
  rintro e w3 ⟨rfl, m3⟩
  have m13 : Mod [] w w3 := Mod.trans (U := []) m12 m3 (by simp) (by simp)
  have s3 := s2.mod m3 (by simp)
  have hcv := cmpV_one (valS L)
  rw [← HV1.out, HV.out] at hcv
  obtain ⟨cv, hcve⟩ : ∃ cv, cv = cmpV (bval B) (valS L1) := ⟨_, rfl⟩
  rw [← hcve] at hcv
  rw [HV.out, ← hcve]
  clear hcve hl hl1
  by_cases hN : 1 < bval B
  · have h0 : 0 < cv := hcv.2 (by rw [HV1.out]; exact hN)
    clear hcv
    go_wp2_with fail
    refine (c_Has0 vn L _ s3 cn.digits).mono ?_
    rintro e w4 ⟨rfl, m4⟩
    have m14 : Mod [] w w4 := Mod.trans (U := []) m13 m4 (by simp) (by simp)
    rw [HV.out]
    have HK : ∀ od : Bool, od = decide (bval B % 2 = 1) → Hid (keyOk (bval B) ex = (od && (decide (3 ≤ ex) && (decide (ex < 2147483648) && decide (ex % 2 = 1))))) := by
      intro od h
      refine hide ?_
      unfold keyOk
      rw [← h, decide_eq_true hN, Bool.true_and, Bool.and_assoc, Bool.and_assoc]
    clear hN
    obtain ⟨od, hod⟩ : ∃ od, od = decide (bval B % 2 = 1) := ⟨_, rfl⟩
    have HK2 := HK od hod
    rw [← hod]
    clear HK hod
    cases od
    · have hk : Hid (keyOk (bval B) ex = false) := hide (by rw [HK2.out]; rfl)
      clear HK2
      go_wp2_with fail
      go_ret
      exact ⟨by rw [hk.out]; rfl, m14⟩
    · by_cases h3 : 3 ≤ ex
      · by_cases hb : ex < 2147483648
        · obtain ⟨en, rfl⟩ : ∃ en : Nat, ex = (en : Int) := ⟨ex.toNat, by omega⟩
          rcases Nat.mod_two_eq_zero_or_one en with hp | hp
          · have e2 : (en : Int) % 2 = 0 := by omega
            have hk : Hid (keyOk (bval B) (en : Int) = false) := hide (by rw [HK2.out, e2]; simp)
            clear HK2 hp
            go_wp2_with fail
            go_ret
            exact ⟨by rw [hk.out]; rfl, m14⟩
          · have e2 : (en : Int) % 2 = 1 := by omega
            have hk : Hid (keyOk (bval B) (en : Int) = true) := hide (by rw [HK2.out, e2, decide_eq_true h3, decide_eq_true hb]; rfl)
            clear HK2 hp
            go_wp2_with fail
            go_ret
            exact ⟨by rw [hk.out]; rfl, m14⟩
        · have hk : Hid (keyOk (bval B) ex = false) := hide (by rw [HK2.out, decide_eq_false hb]; simp)
          clear HK2
          go_wp2_with fail
          go_ret
          exact ⟨by rw [hk.out]; rfl, m14⟩
      · have hk : Hid (keyOk (bval B) ex = false) := hide (by rw [HK2.out, decide_eq_false h3]; simp)
        clear HK2
        go_wp2_with fail
        go_ret
        exact ⟨by rw [hk.out]; rfl, m14⟩
  · have h0 : ¬ 0 < cv := fun h => hN (by have := hcv.1 h; rw [HV1.out] at this; exact this)
    have hk : Hid (keyOk (bval B) ex = false) := hide (by unfold keyOk; rw [decide_eq_false hN]; rfl)
    clear hcv hN
    go_wp2_with fail
    go_ret
    exact ⟨by rw [hk.out]; rfl, m13⟩

/-- A slice of one byte that the call has just made. -/
theorem one_byte {w : World} {w1 : World} (h : w1 = w.alloc (.cells #[.int .u8 15] 5)) : SliceB w1 (sl w.heap.size 0 1 1) [15] := by
  subst h
  refine .inr (.inr ⟨w.heap.size, 0, 1, rfl, by simp, ?_⟩)
  intro i hi
  simp at hi
  subst hi
  exact blk_cell0 (Blk.new w 5 [u8 15])
theorem bytes15 : Bytes [15] := by
  intro i
  rcases Nat.eq_zero_or_pos i with h | h
  · subst h; decide
  · rw [nth_ge (by rw [List.length_singleton]; exact h)]; omega

set_option maxRecDepth 100000 in
theorem c_alive (w : World) : Calls Try.prog 7 #[] w fun e w' => e = .returned (.bool true) ∧ Mod [] w w' := by
  have k1 : keyOk (bval [15]) 3 = true := by decide
  have k2 : keyOk (bval [15]) 2 = false := by decide
  have C1 := hide (c_Taken (sl w.heap.size 0 1 1) 3 [15] (w.alloc (.cells #[.int .u8 15] 5)) (one_byte rfl) bytes15 (by simp) (by omega))
  have C2 := hide (fun (w : World) => c_Taken (sl w.heap.size 0 1 1) 2 [15] (w.alloc (.cells #[.int .u8 15] 5)) (one_byte rfl) bytes15 (by simp) (by omega))
  rw [k1] at C1
  rw [k2] at C2
  clear k1 k2
  go_enter Try.func7, Try.ntmps7
  go_wp2_with fail
  refine C1.out.mono ?_
  rintro e w1 ⟨rfl, m1⟩
  go_wp2_with fail
  refine (C2.out _).mono ?_
  rintro e w2 ⟨rfl, m2⟩
  have m01 : Mod [] w w1 := Mod.trans (U := []) ((Mod.refl [] w).alloc _) m1 (by simp) (by simp)
  have m02 : Mod [] w w2 := Mod.trans (U := []) (m01.alloc _) m2 (by simp) (by simp)
  go_wp2_with fail
  go_ret
  exact ⟨rfl, m02⟩

set_option maxRecDepth 100000 in
set_option maxHeartbeats 1000000 in
theorem c_FnKey (v : Value) (ex : Int) (B : List Nat) (w : World) (hb : SliceB w v B) (hB : Bytes B) (h64 : ex < 2 ^ 63) :
    Calls Try.prog 3 #[v, .int .i64 ex] w fun e w' => e = .returned (.bool true) ∧ Mod [] w w' := by
  obtain ⟨a, c, hv⟩ := hb.lit
  by_cases h1 : B.length ≤ 300
  · have C1 := hide (c_Taken v ex B w hb hB (by omega) h64)
    have C2 := hide (fun w1 (m : Mod [] w w1) => c_specPublic v ex B w1 (hb.mod m (by simp)) hB (by omega))
    rw [hv] at C1 C2 ⊢
    obtain ⟨k, hk⟩ : ∃ k, k = keyOk (bval B) ex := ⟨_, rfl⟩
    rw [← hk] at C1 C2
    have g1 : ¬ (2147483647 : Int) < (B.length : Int) := by omega
    have g2 : ¬ (300 : Int) < (B.length : Int) := by omega
    clear hk h64 h1
    go_enter Try.func3, Try.ntmps3
    go_wp2_with fail
    refine C1.out.mono ?_
    rintro e w1 ⟨rfl, m1⟩
    go_wp2_with fail
    refine (C2.out _ m1).mono ?_
    rintro e w2 ⟨rfl, m2⟩
    have m12 : Mod [] w w2 := Mod.trans (U := []) m1 m2 (by simp) (by simp)
    cases k
    all_goals
      go_wp2_with fail
      refine (c_alive _).mono ?_
      rintro e w3 ⟨rfl, m3⟩
      have m13 : Mod [] w w3 := Mod.trans (U := []) m12 m3 (by simp) (by simp)
      go_wp2_with fail
      go_ret
      exact ⟨rfl, m13⟩
  · rw [hv]
    have g2 : (300 : Int) < (B.length : Int) := by omega
    clear h64 h1
    by_cases h2 : (2147483647 : Int) < (B.length : Int)
    · go_enter Try.func3, Try.ntmps3
      go_wp2_with fail
      go_ret
      exact ⟨rfl, Mod.refl _ _⟩
    · go_enter Try.func3, Try.ntmps3
      go_wp2_with fail
      go_ret
      exact ⟨rfl, Mod.refl _ _⟩
end Go.Proofs.Ytgejcabgcemllaa
