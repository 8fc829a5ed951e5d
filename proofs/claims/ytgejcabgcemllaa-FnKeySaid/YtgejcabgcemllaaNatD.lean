/- Contracts of bigmod's IsOdd, IsZero, IsOne, BitLenVarTime, trim. -/
import Derived.Test.YtgejcabgcemllaaNatC
import Derived.Test.YtgejcabgcemllaaWordsB
namespace Go.Proofs.Ytgejcabgcemllaa
open Go.RowKit

theorem and_one_word {n : Nat} (h : n < W) : bits .and .u64 (n : Int) 1 = ((n % 2 : Nat) : Int) := by
  have hb := bits_and_u64_nat n 1 (by rw [W_eq] at h; exact h) (by omega)
  rw [Nat.and_one_is_mod] at hb
  exact hb

set_option maxRecDepth 100000 in
theorem c_IsOdd (x p : Nat) (L R : List Nat) (w : World) (h : NatIs w x p L R) (hL : Words L) :
    Calls Try.prog 50 #[ptr x] w fun e w' => e = .returned (u64 (val L % 2)) ∧ w = w' := by
  have hc := h.cell
  have hcap := h.cap
  by_cases h0 : L.length = 0
  · have hl := List.eq_nil_of_length_eq_zero h0
    subst hl
    simp only [List.length_nil, Nat.zero_add] at hc
    clear h0
    go_enter Try.func50, Try.ntmps50
    go_wp2_with fail
    go_ret
    exact ⟨rfl, rfl⟩
  · have h1 := h.at 0 (by omega)
    have ha := and_one_word (hL.nth 0)
    have hne : ((L.length : Int) == 0) = false := by simpa using h0
    have hpos : 0 < L.length := by omega
    have hv : nth L 0 % 2 = val L % 2 := by
      cases L with
      | nil => simp at hpos
      | cons a l => simp only [nth, val, List.getD_cons_zero]; rw [W_eq]; omega
    have H := hide hv
    clear hv h0
    go_enter Try.func50, Try.ntmps50
    go_wp2_with fail
    go_ret
    exact ⟨ret_u64 H.out, rfl⟩

set_option maxRecDepth 100000 in
theorem c_IsZero (x p : Nat) (L R : List Nat) (w : World) (h : NatIs w x p L R) :
    Calls Try.prog 55 #[ptr x] w fun e w' => e = .returned (u64 (eqB (val L) 0)) ∧ w = w' := by
  have hc := h.cell
  have hcap := h.cap
  have hfin : Hid (allZ L L.length = eqB (val L) 0) := hide (by rw [allZ_eq _ (Nat.le_refl _), List.take_length])
  go_enter Try.func55, Try.ntmps55
  go_wp2_with fail
  go_loop [5, 6] (fun z i => ∃ k : Nat, k ≤ L.length ∧ i = i64 k ∧ z = u64 (allZ L k)) (fun _ i => L.length - (intOf i).toNat)
  case atStart => exact ⟨0, Nat.zero_le _, rfl, rfl⟩
  case round =>
    obtain ⟨k, hk, rfl, rfl⟩ := hrel
    by_cases hlt : k < L.length
    · have h1 := h.at k hlt
      have ha := and_bit (allZ_le L k) (eqB_le (nth L k) 0)
      have hs : Hid (allZ L (k + 1) = min (allZ L k) (eqB (nth L k) 0)) := hide rfl
      go_wp2_with fail
      refine (c_ctEq (nth L k) 0 _).mono ?_; rintro e w' ⟨rfl, rfl⟩
      go_wp2_with fail
      go_round
      case rel => exact ⟨k + 1, by omega, by go_num, by rw [hs.out]⟩
      case measure => simp [intOf]; omega
    · obtain rfl : k = L.length := by omega
      go_wp2_with fail
      go_ret
      exact ⟨ret_u64 hfin.out, rfl⟩

set_option maxRecDepth 100000 in
theorem c_IsOne (x p : Nat) (L R : List Nat) (w : World) (h : NatIs w x p L R) :
    Calls Try.prog 56 #[ptr x] w fun e w' => e = .returned (u64 (eqB (val L) 1)) ∧ w = w' := by
  have hc := h.cell
  have hcap := h.cap
  by_cases h0 : L.length = 0
  · have hl := List.eq_nil_of_length_eq_zero h0
    subst hl
    simp only [List.length_nil, Nat.zero_add] at hc
    clear h0
    go_enter Try.func56, Try.ntmps56
    go_wp2_with fail
    go_ret
    exact ⟨rfl, rfl⟩
  · have h1 := h.at 0 (by omega)
    have hne : ((L.length : Int) == 0) = false := by simpa using h0
    have hpos : 0 < L.length := by omega
    have hfin : Hid (oneZ L (L.length - 1) = eqB (val L) 1) := hide (by rw [oneZ_eq _ (by omega), show L.length - 1 + 1 = L.length by omega, List.take_length])
    have hst : Hid (oneZ L 0 = eqB (nth L 0) 1) := hide rfl
    clear h0
    go_enter Try.func56, Try.ntmps56
    go_wp2_with fail
    refine (c_ctEq (nth L 0) 1 _).mono ?_; rintro e w' ⟨rfl, rfl⟩
    go_wp2_with fail
    go_loop [5, 6] (fun z i => ∃ k : Nat, k < L.length ∧ i = .int .i64 ((k : Int) + 1) ∧ z = u64 (oneZ L k)) (fun _ i => L.length - (intOf i).toNat)
    case atStart => exact ⟨0, hpos, rfl, by rw [hst.out]⟩
    case round =>
      obtain ⟨k, hk, rfl, rfl⟩ := hrel
      by_cases hlt : k + 1 < L.length
      · have h1 := h.at (k + 1) hlt
        have ha := and_bit (oneZ_le L k) (eqB_le (nth L (k + 1)) 0)
        have hs : Hid (oneZ L (k + 1) = min (oneZ L k) (eqB (nth L (k + 1)) 0)) := hide rfl
        go_wp2_with fail
        refine (c_ctEq (nth L (k + 1)) 0 _).mono ?_; rintro e w' ⟨rfl, rfl⟩
        go_wp2_with fail
        go_round
        case rel => exact ⟨k + 1, by omega, by go_num, by rw [hs.out]⟩
        case measure => simp [intOf]; omega
      · obtain hk1 : L.length - 1 = k := by omega
        have hf2 : Hid (oneZ L k = eqB (val L) 1) := hide (by rw [← hk1]; exact hfin.out)
        clear hk1
        go_wp2_with fail
        go_ret
        exact ⟨ret_u64 hf2.out, rfl⟩

set_option maxRecDepth 100000 in
theorem c_BitLenVarTime (x p : Nat) (L R : List Nat) (w : World) (h : NatIs w x p L R) (hL : Words L) :
    Calls Try.prog 60 #[ptr x] w fun e w' => e = .returned (i64 (blen (val L))) ∧ w = w' := by
  have hc := h.cell
  have hcap := h.cap
  have hfin : Hid (rowBits L L.length = blen (val L)) := hide (by rw [rowBits_eq hL _ (Nat.le_refl _), List.take_length])
  go_enter Try.func60, Try.ntmps60
  go_wp2_with fail
  go_loop [5] (fun i => ∃ k : Nat, k ≤ L.length ∧ i = .int .i64 ((k : Int) - 1) ∧ Hid (rowBits L k = blen (val L))) (fun i => (intOf i + 1).toNat)
  case atStart => exact ⟨L.length, Nat.le_refl _, rfl, hfin⟩
  case round =>
    obtain ⟨k, hk, rfl, hr⟩ := hrel
    cases k with
    | zero =>
      go_wp2_with fail
      go_ret
      exact ⟨ret_i64 (a := 0) hr.out, rfl⟩
    | succ k =>
      have h1 := h.at k (by omega)
      have e1 : Hid (((k + 1 : Nat) : Int) - 1 = (k : Int)) := hide (by omega)
      have hw := hL.nth k
      have hb := blen_word hw
      rw [e1.out]
      by_cases h0 : nth L k = 0
      · have hne : ((nth L k : Int) != 0) = false := by simpa using h0
        have hs : Hid (rowBits L k = blen (val L)) := hide (by have := hr.out; simp only [rowBits] at this; rw [if_pos h0] at this; exact this)
        clear h0 hr
        go_wp2_with fail
        go_round
        case rel => exact ⟨k, by omega, by go_num, hs⟩
        case measure => simp [intOf]
      · have hne : ((nth L k : Int) != 0) = true := by simpa using h0
        have hs : Hid (k * 64 + blen (nth L k) = blen (val L)) := hide (by have := hr.out; simp only [rowBits] at this; rw [if_neg h0] at this; exact this)
        clear h0 hr
        go_wp2_with fail
        refine (c_bitLen (nth L k) hw _).mono ?_; rintro e w' ⟨rfl, rfl⟩
        go_wp2_with fail
        go_ret
        refine ⟨Eq.trans ?_ (ret_i64 hs.out), rfl⟩
        simp

theorem take_append_more (L R : List Nat) (k : Nat) : L.take k ++ (L.drop k ++ R) = L ++ R := by
  rw [← List.append_assoc, List.take_append_drop]

set_option maxRecDepth 100000 in
set_option maxHeartbeats 400000 in
theorem c_trim (x p : Nat) (L R : List Nat) (w : World) (h : NatIs w x p L R) :
    Calls Try.prog 54 #[ptr x] w fun e w' =>
      ∃ R', e = .returned (ptr x) ∧ Mod [x] w w' ∧ NatIs w' x p (L.take (trimN L L.length)) R' := by
  have hc := h.cell
  have hcap := h.cap
  have hne := h.ne
  have hpx : p ∉ [x] := by simp; omega
  go_enter Try.func54, Try.ntmps54
  go_wp2_with fail
  go_loopw [3] (fun i wr => ∃ k : Nat, k ≤ L.length ∧ i = .int .i64 ((k : Int) - 1) ∧ Hid (trimN L k = trimN L L.length) ∧ Mod [x] w wr ∧ Blk wr x 100 [sl p 0 k (L.length + R.length)]) (fun i _ => (intOf i + 1).toNat)
  case atStart => exact ⟨L.length, Nat.le_refl _, rfl, hide rfl, Mod.refl _ _, h.head⟩
  case round =>
    obtain ⟨k, hk, rfl, hr, hm, hx⟩ := hrel
    have hrow := h.row.mod hm hpx
    have hend : ∀ j, trimN L k = j → k = j → NatIs wr x p (L.take (trimN L L.length)) (L.drop k ++ R) := by
      intro j hj hkj
      rw [← hr.out, hj, ← hkj]
      refine ⟨?_, by rw [take_append_more L R k]; exact hrow, by simp; omega⟩
      have e : (L.take k).length + (L.drop k ++ R).length = L.length + R.length := by simp; omega
      rw [e, List.length_take, Nat.min_eq_left hk]
      exact hx
    have hcx := blk_cell0 hx
    have hfx := hx.frozen 0
    cases k with
    | zero =>
      have hfin := hend 0 rfl rfl
      clear hend hrow
      go_wp2_with fail
      go_ret
      exact ⟨_, rfl, hm, hfin⟩
    | succ k =>
      have h1 : wr.cell? ⟨p, k, none⟩ = some (u64 (nth L k)) := by rw [hrow.at k (by simp; omega), nth_append_left (by omega)]
      have e1 : Hid (((k + 1 : Nat) : Int) - 1 = (k : Int)) := hide (by omega)
      rw [e1.out]
      by_cases h0 : nth L k = 0
      · have hne : ((nth L k : Int) != 0) = false := by simpa using h0
        have hs : Hid (trimN L k = trimN L L.length) := hide (by have := hr.out; simp only [trimN] at this; rw [if_pos h0] at this; exact this)
        have hx2 : Blk (wr.setCell ⟨x, 0, none⟩ (sl p 0 k (L.length + R.length))) x 100 [sl p 0 k (L.length + R.length)] := hx.setCell 0 _
        have hm2 : Mod [x] w (wr.setCell ⟨x, 0, none⟩ (sl p 0 k (L.length + R.length))) := hm.setCell _ _ (by simp)
        clear h0 hr hend hrow
        go_wp2_with fail
        go_roundw
        case rel => exact ⟨k, by omega, by go_num, hs, hm2, hx2⟩
        case measure => simp [intOf]
      · have hne : ((nth L k : Int) != 0) = true := by simpa using h0
        have hfin := hend (k + 1) (by simp only [trimN]; rw [if_neg h0]) rfl
        clear h0 hr hend hrow
        go_wp2_with fail
        go_ret
        exact ⟨_, rfl, hm, hfin⟩

end Go.Proofs.Ytgejcabgcemllaa
