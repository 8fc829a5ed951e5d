/- bigmod's newModulus, NewModulus and Modulus.Nat. -/
import Derived.Test.YtgejcabgcemllaaNatL
import Derived.Test.YtgejcabgcemllaaNatK
import Derived.Test.YtgejcabgcemllaaM0
import Derived.WalkSpells
namespace Go.Proofs.Ytgejcabgcemllaa
open Go.RowKit

/-- What stands behind a modulus' head: for an odd one its word and its R * R. -/
structure ModIs (w : World) (n m x p : Nat) (M R : List Nat) : Prop where
  nat : NatIs w x p M R
  words : Words M
  top : M.length ≠ 0 → nth M (M.length - 1) ≠ 0
  big : 1 < val M
  room : M.length ≤ 20000
  even : val M % 2 = 0 → MHead w m x false 0 (.pointer none)
  odd : val M % 2 = 1 → ∃ k y q X S, MHead w m x true k (ptr y) ∧ (k * nth M 0) % W = W - 1 ∧ NatIs w y q X S ∧ Below' X M ∧ val X = (W ^ M.length * W ^ M.length) % val M ∧ n ≤ y ∧ n ≤ q
  new : n ≤ m

theorem val_parity {M : List Nat} : nth M 0 % 2 = val M % 2 := by
  cases M with
  | nil => rfl
  | cons a l => simp only [nth, val, List.getD_cons_zero]; rw [W_eq]; omega

theorem len_pos {M : List Nat} (h : 1 < val M) : 0 < M.length := by
  cases M with
  | nil => simp [val] at h
  | cons a l => simp

set_option maxRecDepth 100000 in
set_option maxHeartbeats 1600000 in
theorem c_newModulus_small (x p : Nat) (M R : List Nat) (w : World) (h : NatIs w x p M R) (hs : val M ≤ 1) :
    Calls Try.prog 47 #[ptr x] w fun e w' => ∃ q, e = .returned (.tuple #[.pointer none, .iface 107 (ptr q)]) ∧ Mod [] w w' := by
  have hb : NatIs (w.alloc (.cells #[ptr x, .bool false, .int .u64 0, .pointer none] 104)) x p M R := ⟨h.head.alloc _, h.row.alloc _, h.cap⟩
  have m0 : Mod [] w (w.alloc (.cells #[ptr x, .bool false, .int .u64 0, .pointer none] 104)) := (Mod.refl _ _).alloc _
  have hcases : (eqB (val M) 0 = 1) ∨ (eqB (val M) 0 = 0 ∧ eqB (val M) 1 = 1) := by
    unfold eqB
    by_cases h0 : val M = 0
    · left; rw [if_pos h0]
    · right; rw [if_neg h0, if_pos (by omega)]; exact ⟨rfl, rfl⟩
  clear hs
  rcases hcases with e0 | ⟨e0, e1⟩
  · go_enter Try.func47, Try.ntmps47
    go_wp2_with fail
    refine (c_IsZero x p M R _ hb).mono ?_; rintro e w' ⟨rfl, rfl⟩
    go_wp2_with fail
    refine (c_errNew _ _).mono ?_; rintro e w2 ⟨q, rfl, m2⟩
    have m02 : Mod [] w w2 := Mod.trans (U := []) m0 m2 (by simp) (by simp)
    go_wp2_with fail
    go_ret2
    exact ⟨q, rfl, m02⟩
  · have hlen : 0 < M.length := by
      rcases Nat.eq_zero_or_pos M.length with h0 | h0
      · rw [List.eq_nil_of_length_eq_zero h0, val_nil] at e0; simp [eqB] at e0
      · exact h0
    have HLEN := hide hlen
    clear hlen
    go_enter Try.func47, Try.ntmps47
    go_wp2_with fail
    refine (c_IsZero x p M R _ hb).mono ?_; rintro e w' ⟨rfl, rfl⟩
    go_wp2_with fail
    refine (c_IsOne x p M R _ hb).mono ?_; rintro e w' ⟨rfl, rfl⟩
    go_wp2_with fail
    refine (c_errNew _ _).mono ?_; rintro e w2 ⟨q, rfl, m2⟩
    have m02 : Mod [] w w2 := Mod.trans (U := []) m0 m2 (by simp) (by simp)
    go_wp2_with fail
    go_ret2
    exact ⟨q, rfl, m02⟩

set_option maxRecDepth 100000 in
set_option maxHeartbeats 1600000 in
theorem c_newModulus (x p : Nat) (M R : List Nat) (w : World) (h : NatIs w x p M R) (hW : Words M) (hs : 1 < val M) (htop : M.length ≠ 0 → nth M (M.length - 1) ≠ 0) (hroom : M.length ≤ 20000) :
    Calls Try.prog 47 #[ptr x] w fun e w' => ∃ m, e = .returned (.tuple #[ptr m, .nilIface]) ∧ Mod [] w w' ∧ ModIs w' w.heap.size m x p M R := by
  obtain ⟨w1, hw1⟩ : ∃ w1, w1 = w.alloc (.cells #[ptr x, .bool false, .int .u64 0, .pointer none] 104) := ⟨_, rfl⟩
  obtain ⟨m, hm⟩ : ∃ m, m = w.heap.size := ⟨_, rfl⟩
  have hb : NatIs w1 x p M R := by rw [hw1]; exact ⟨h.head.alloc _, h.row.alloc _, h.cap⟩
  have m0 : Mod [] w w1 := by rw [hw1]; exact (Mod.refl _ _).alloc _
  have hh : MHead w1 m x false 0 (.pointer none) := by rw [hw1, hm]; exact Blk.new w _ [ptr x, .bool false, u64 0, .pointer none]
  have hxm : x ≠ m := by have := h.xlt; omega
  have hpm : p ≠ m := by have := h.plt; omega
  have e0 : eqB (val M) 0 = 0 := by unfold eqB; rw [if_neg (by omega)]
  have e1 : eqB (val M) 1 = 0 := by unfold eqB; rw [if_neg (by omega)]
  have hlen := len_pos hs
  have HW1 := hide hw1
  have HM := hide hm
  have HT := hide htop
  clear hw1 hm htop
  rcases Nat.mod_two_eq_zero_or_one (val M) with hev | hod
  · go_enter Try.func47, Try.ntmps47
    go_wp2_with fail
    rw [← HW1.out, ← HM.out]
    refine (c_IsZero x p M R _ hb).mono ?_; rintro e w' ⟨rfl, rfl⟩
    have hc0 := hh.c0
    go_wp2_with fail
    refine (c_IsOne x p M R _ hb).mono ?_; rintro e w' ⟨rfl, rfl⟩
    go_wp2_with fail
    refine (c_IsOdd x p M R _ hb hW).mono ?_; rintro e w' ⟨rfl, rfl⟩
    rw [hev]
    have HEV := hide hev
    clear hev
    go_wp2_with fail
    go_ret2
    exact ⟨m, rfl, m0, hb, hW, HT.out, hs, hroom, fun _ => hh, fun hod => by have := HEV.out; omega, by rw [HM.out]; omega⟩
  · have hw0 := hb.at 0 hlen
    obtain ⟨k, hk⟩ : ∃ k, k = m0inv (nth M 0) := ⟨_, rfl⟩
    have hkl : (k * nth M 0) % W = W - 1 := by rw [hk]; exact m0inv_law (by rw [val_parity]; exact hod)
    have HK := hide hk
    have HKL := hide hkl
    clear hk hkl
    go_enter Try.func47, Try.ntmps47
    go_wp2_with fail
    rw [← HW1.out, ← HM.out]
    refine (c_IsZero x p M R _ hb).mono ?_; rintro e w' ⟨rfl, rfl⟩
    have hc0 := hh.c0
    go_wp2_with fail
    refine (c_IsOne x p M R _ hb).mono ?_; rintro e w' ⟨rfl, rfl⟩
    go_wp2_with fail
    refine (c_IsOdd x p M R _ hb hW).mono ?_; rintro e w' ⟨rfl, rfl⟩
    rw [hod]
    have HOD := hide hod
    clear hod
    have hf1 := hh.frozen 1
    have hf2 := hh.frozen 2
    have hf3 := hh.frozen 3
    have hc1 := hh.c1
    have hc2 := hh.c2
    have hcx := hb.cell
    go_wp2_with fail
    refine (c_minusInverse (nth M 0) (hW.nth 0) _).mono ?_; rintro e w' ⟨rfl, rfl⟩
    rw [← HK.out]
    have hh2 := (hh.setCell 1 (.bool true)).setCell 2 (u64 k)
    obtain ⟨w2, hw2⟩ : ∃ w2, w2 = (w1.setCell ⟨m, 1, none⟩ (.bool true)).setCell ⟨m, 2, none⟩ (.int .u64 (k : Int)) := ⟨_, rfl⟩
    have m2 : Mod [] w w2 := by rw [hw2]; exact (m0.setCell _ _ (by simp; have := HM.out; omega)).setCell _ _ (by simp; have := HM.out; omega)
    have hb2 : NatIs w2 x p M R := by
      rw [hw2]
      refine ⟨(hb.head.setCell_other _ _ ?_).setCell_other _ _ ?_, (hb.row.setCell_other _ _ ?_).setCell_other _ _ ?_, hb.cap⟩ <;> simp [hxm, hpm]
    have hh3 : MHead w2 m x true k (.pointer none) := by rw [hw2]; exact hh2
    have HW2 := hide hw2
    clear hw2 hh2
    go_wp2_with fail
    rw [← HW2.out]
    refine (c_rr m x p k true _ M R _ hh3 hb2 hW hlen hroom (HT.out (by omega)) hs HOD.out HKL.out).mono ?_
    rintro e w3 ⟨y, q, X, S, rfl, m3, hy3, g1, g2, hbX, hvX⟩
    have hh4 : MHead w3 m x true k (.pointer none) := Blk.mod hh3 m3 (by simp)
    have hb3 := hb2.mod m3 (by simp) (by simp)
    have hf3' := hh4.frozen 3
    have hc3 := hh4.c3
    have hml := hh3.lt
    have hsz := m0.size
    have hsz2 := m2.size
    have hh5 := hh4.setCell 3 (ptr y)
    obtain ⟨w4, hw4⟩ : ∃ w4, w4 = w3.setCell ⟨m, 3, none⟩ (ptr y) := ⟨_, rfl⟩
    have m4 : Mod [] w w4 := by rw [hw4]; exact (Mod.trans (U := []) m2 m3 (by simp) (by simp)).setCell _ _ (by simp; have := HM.out; omega)
    have hb4 : NatIs w4 x p M R := by
      rw [hw4]
      refine ⟨hb3.head.setCell_other _ _ ?_, hb3.row.setCell_other _ _ ?_, hb.cap⟩ <;> simp [hxm, hpm]
    have hy4 : NatIs w4 y q X S := by
      rw [hw4]
      refine ⟨hy3.head.setCell_other _ _ ?_, hy3.row.setCell_other _ _ ?_, hy3.cap⟩ <;> simp <;> omega
    have hh6 : MHead w4 m x true k (ptr y) := by rw [hw4]; exact hh5
    have HVX := hide hvX
    have HW4 := hide hw4
    clear hw4 hh5 hvX
    go_wp2_with fail
    go_ret2
    rw [← HW4.out]
    refine ⟨m, rfl, m4, hb4, hW, HT.out, hs, hroom, fun hev => by have := HOD.out; omega, fun _ => ⟨k, y, q, X, S, hh6, HKL.out, hy4, hbX, HVX.out, ?_, ?_⟩, by rw [HM.out]; omega⟩ <;> omega
end Go.Proofs.Ytgejcabgcemllaa
