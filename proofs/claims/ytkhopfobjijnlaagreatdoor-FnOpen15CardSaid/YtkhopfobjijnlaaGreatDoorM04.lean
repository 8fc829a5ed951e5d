/- Contracts of bigmod's IsOdd, IsZero, IsOne, BitLenVarTime, trim. Contracts of bigmod's add, sub and assign: a row is written in place. A row taken times a word and added to another: what addMulVVW computes, and what it comes to. No condition. -/
import Derived.Test.YtkhopfobjijnlaaGreatDoorM03
set_option linter.all false
namespace Go.Proofs.YtkhopfobjijnlaaGreatDoor
open Go.RowKit

theorem and_one_word {n : Nat} (h : n < W) : bits .and .u64 (n : Int) 1 = ((n % 2 : Nat) : Int) := by
  have hb := bits_and_u64_nat n 1 (by rw [W_eq] at h; exact h) (by omega)
  rw [Nat.and_one_is_mod] at hb
  exact hb

set_option maxRecDepth 100000 in
theorem c_IsOdd (x p : Nat) (L R : List Nat) (w : World) (h : NatIs w x p L R) (hL : Words L) :
    Calls Tryz.prog 84 #[ptr x] w fun e w' => e = .returned (u64 (val L % 2)) ∧ w = w' := by
  have hc := h.cell
  have hcap := h.cap
  by_cases h0 : L.length = 0
  · have hl := List.eq_nil_of_length_eq_zero h0
    subst hl
    simp only [List.length_nil, Nat.zero_add] at hc
    clear h0
    go_enter Tryz.func84, Tryz.ntmps84
    go_wp2_with fail
    go_ret
    exact ⟨rfl, rfl⟩
  · have h1 := h.at 0 (by omega)
    have ha := and_one_word (hL.nth 0)
    have hne : ((L.length : Int) == 0) = false := by simpa using h0
    have hpos : 0 < L.length := by omega
    have hv : nth L 0 % 2 = val L % 2 := by
      cases L with
      | nil => simp at hpos
      | cons a l => simp only [nth, val, List.getD_cons_zero]; rw [W_eq]; omega
    have H := hide hv
    clear hv h0
    go_enter Tryz.func84, Tryz.ntmps84
    go_wp2_with fail
    go_ret
    exact ⟨ret_u64 H.out, rfl⟩

set_option maxRecDepth 100000 in
theorem c_IsZero (x p : Nat) (L R : List Nat) (w : World) (h : NatIs w x p L R) :
    Calls Tryz.prog 106 #[ptr x] w fun e w' => e = .returned (u64 (eqB (val L) 0)) ∧ w = w' := by
  have hc := h.cell
  have hcap := h.cap
  have hfin : Hid (allZ L L.length = eqB (val L) 0) := hide (by rw [allZ_eq _ (Nat.le_refl _), List.take_length])
  go_enter Tryz.func106, Tryz.ntmps106
  go_wp2_with fail
  go_loop [5, 6] (fun z i => ∃ k : Nat, k ≤ L.length ∧ i = i64 k ∧ z = u64 (allZ L k)) (fun _ i => L.length - (intOf i).toNat)
  case atStart => exact ⟨0, Nat.zero_le _, rfl, rfl⟩
  case round =>
    obtain ⟨k, hk, rfl, rfl⟩ := hrel
    by_cases hlt : k < L.length
    · have h1 := h.at k hlt
      have ha := and_bit (allZ_le L k) (eqB_le (nth L k) 0)
      have hs : Hid (allZ L (k + 1) = min (allZ L k) (eqB (nth L k) 0)) := hide rfl
      go_wp2_with fail
      refine (c_ctEq (nth L k) 0 _).mono ?_; rintro e w' ⟨rfl, rfl⟩
      go_wp2_with fail
      go_round
      case rel => exact ⟨k + 1, by omega, by go_num, by rw [hs.out]⟩
      case measure => simp [intOf]; omega
    · obtain rfl : k = L.length := by omega
      go_wp2_with fail
      go_ret
      exact ⟨ret_u64 hfin.out, rfl⟩

set_option maxRecDepth 100000 in
theorem c_IsOne (x p : Nat) (L R : List Nat) (w : World) (h : NatIs w x p L R) :
    Calls Tryz.prog 107 #[ptr x] w fun e w' => e = .returned (u64 (eqB (val L) 1)) ∧ w = w' := by
  have hc := h.cell
  have hcap := h.cap
  by_cases h0 : L.length = 0
  · have hl := List.eq_nil_of_length_eq_zero h0
    subst hl
    simp only [List.length_nil, Nat.zero_add] at hc
    clear h0
    go_enter Tryz.func107, Tryz.ntmps107
    go_wp2_with fail
    go_ret
    exact ⟨rfl, rfl⟩
  · have h1 := h.at 0 (by omega)
    have hne : ((L.length : Int) == 0) = false := by simpa using h0
    have hpos : 0 < L.length := by omega
    have hfin : Hid (oneZ L (L.length - 1) = eqB (val L) 1) := hide (by rw [oneZ_eq _ (by omega), show L.length - 1 + 1 = L.length by omega, List.take_length])
    have hst : Hid (oneZ L 0 = eqB (nth L 0) 1) := hide rfl
    clear h0
    go_enter Tryz.func107, Tryz.ntmps107
    go_wp2_with fail
    refine (c_ctEq (nth L 0) 1 _).mono ?_; rintro e w' ⟨rfl, rfl⟩
    go_wp2_with fail
    go_loop [5, 6] (fun z i => ∃ k : Nat, k < L.length ∧ i = .int .i64 ((k : Int) + 1) ∧ z = u64 (oneZ L k)) (fun _ i => L.length - (intOf i).toNat)
    case atStart => exact ⟨0, hpos, rfl, by rw [hst.out]⟩
    case round =>
      obtain ⟨k, hk, rfl, rfl⟩ := hrel
      by_cases hlt : k + 1 < L.length
      · have h1 := h.at (k + 1) hlt
        have ha := and_bit (oneZ_le L k) (eqB_le (nth L (k + 1)) 0)
        have hs : Hid (oneZ L (k + 1) = min (oneZ L k) (eqB (nth L (k + 1)) 0)) := hide rfl
        go_wp2_with fail
        refine (c_ctEq (nth L (k + 1)) 0 _).mono ?_; rintro e w' ⟨rfl, rfl⟩
        go_wp2_with fail
        go_round
        case rel => exact ⟨k + 1, by omega, by go_num, by rw [hs.out]⟩
        case measure => simp [intOf]; omega
      · obtain hk1 : L.length - 1 = k := by omega
        have hf2 : Hid (oneZ L k = eqB (val L) 1) := hide (by rw [← hk1]; exact hfin.out)
        clear hk1
        go_wp2_with fail
        go_ret
        exact ⟨ret_u64 hf2.out, rfl⟩

set_option maxRecDepth 100000 in
theorem c_BitLenVarTime (x p : Nat) (L R : List Nat) (w : World) (h : NatIs w x p L R) (hL : Words L) :
    Calls Tryz.prog 58 #[ptr x] w fun e w' => e = .returned (i64 (blen (val L))) ∧ w = w' := by
  have hc := h.cell
  have hcap := h.cap
  have hfin : Hid (rowBits L L.length = blen (val L)) := hide (by rw [rowBits_eq hL _ (Nat.le_refl _), List.take_length])
  go_enter Tryz.func58, Tryz.ntmps58
  go_wp2_with fail
  go_loop [5] (fun i => ∃ k : Nat, k ≤ L.length ∧ i = .int .i64 ((k : Int) - 1) ∧ Hid (rowBits L k = blen (val L))) (fun i => (intOf i + 1).toNat)
  case atStart => exact ⟨L.length, Nat.le_refl _, rfl, hfin⟩
  case round =>
    obtain ⟨k, hk, rfl, hr⟩ := hrel
    cases k with
    | zero =>
      go_wp2_with fail
      go_ret
      exact ⟨ret_i64 (a := 0) hr.out, rfl⟩
    | succ k =>
      have h1 := h.at k (by omega)
      have e1 : Hid (((k + 1 : Nat) : Int) - 1 = (k : Int)) := hide (by omega)
      have hw := hL.nth k
      have hb := blen_word hw
      rw [e1.out]
      by_cases h0 : nth L k = 0
      · have hne : ((nth L k : Int) != 0) = false := by simpa using h0
        have hs : Hid (rowBits L k = blen (val L)) := hide (by have := hr.out; simp only [rowBits] at this; rw [if_pos h0] at this; exact this)
        clear h0 hr
        go_wp2_with fail
        go_round
        case rel => exact ⟨k, by omega, by go_num, hs⟩
        case measure => simp [intOf]
      · have hne : ((nth L k : Int) != 0) = true := by simpa using h0
        have hs : Hid (k * 64 + blen (nth L k) = blen (val L)) := hide (by have := hr.out; simp only [rowBits] at this; rw [if_neg h0] at this; exact this)
        clear h0 hr
        go_wp2_with fail
        refine (c_bitLen (nth L k) hw _).mono ?_; rintro e w' ⟨rfl, rfl⟩
        go_wp2_with fail
        go_ret
        refine ⟨Eq.trans ?_ (ret_i64 hs.out), rfl⟩
        simp

theorem take_append_more (L R : List Nat) (k : Nat) : L.take k ++ (L.drop k ++ R) = L ++ R := by
  rw [← List.append_assoc, List.take_append_drop]

set_option maxRecDepth 100000 in
set_option maxHeartbeats 400000 in
theorem c_trim (x p : Nat) (L R : List Nat) (w : World) (h : NatIs w x p L R) :
    Calls Tryz.prog 105 #[ptr x] w fun e w' =>
      ∃ R', e = .returned (ptr x) ∧ Mod [x] w w' ∧ NatIs w' x p (L.take (trimN L L.length)) R' := by
  have hc := h.cell
  have hcap := h.cap
  have hne := h.ne
  have hpx : p ∉ [x] := by simp; omega
  go_enter Tryz.func105, Tryz.ntmps105
  go_wp2_with fail
  go_loopw [3] (fun i wr => ∃ k : Nat, k ≤ L.length ∧ i = .int .i64 ((k : Int) - 1) ∧ Hid (trimN L k = trimN L L.length) ∧ Mod [x] w wr ∧ Blk wr x 126 [sl p 0 k (L.length + R.length)]) (fun i _ => (intOf i + 1).toNat)
  case atStart => exact ⟨L.length, Nat.le_refl _, rfl, hide rfl, Mod.refl _ _, h.head⟩
  case round =>
    obtain ⟨k, hk, rfl, hr, hm, hx⟩ := hrel
    have hrow := h.row.mod hm hpx
    have hend : ∀ j, trimN L k = j → k = j → NatIs wr x p (L.take (trimN L L.length)) (L.drop k ++ R) := by
      intro j hj hkj
      rw [← hr.out, hj, ← hkj]
      refine ⟨?_, by rw [take_append_more L R k]; exact hrow, by simp; omega⟩
      have e : (L.take k).length + (L.drop k ++ R).length = L.length + R.length := by simp; omega
      rw [e, List.length_take, Nat.min_eq_left hk]
      exact hx
    have hcx := blk_cell0 hx
    have hfx := hx.frozen 0
    cases k with
    | zero =>
      have hfin := hend 0 rfl rfl
      clear hend hrow
      go_wp2_with fail
      go_ret
      exact ⟨_, rfl, hm, hfin⟩
    | succ k =>
      have h1 : wr.cell? ⟨p, k, none⟩ = some (u64 (nth L k)) := by rw [hrow.at k (by simp; omega), nth_append_left (by omega)]
      have e1 : Hid (((k + 1 : Nat) : Int) - 1 = (k : Int)) := hide (by omega)
      rw [e1.out]
      by_cases h0 : nth L k = 0
      · have hne : ((nth L k : Int) != 0) = false := by simpa using h0
        have hs : Hid (trimN L k = trimN L L.length) := hide (by have := hr.out; simp only [trimN] at this; rw [if_pos h0] at this; exact this)
        have hx2 : Blk (wr.setCell ⟨x, 0, none⟩ (sl p 0 k (L.length + R.length))) x 126 [sl p 0 k (L.length + R.length)] := hx.setCell 0 _
        have hm2 : Mod [x] w (wr.setCell ⟨x, 0, none⟩ (sl p 0 k (L.length + R.length))) := hm.setCell _ _ (by simp)
        clear h0 hr hend hrow
        go_wp2_with fail
        go_roundw
        case rel => exact ⟨k, by omega, by go_num, hs, hm2, hx2⟩
        case measure => simp [intOf]
      · have hne : ((nth L k : Int) != 0) = true := by simpa using h0
        have hfin := hend (k + 1) (by simp only [trimN]; rw [if_neg h0]) rfl
        clear h0 hr hend hrow
        go_wp2_with fail
        go_ret
        exact ⟨_, rfl, hm, hfin⟩

end Go.Proofs.YtkhopfobjijnlaaGreatDoor
namespace Go.Proofs.YtkhopfobjijnlaaGreatDoor
open Go.RowKit

theorem map_u64_inj : ∀ {A B : List Nat}, A.map u64 = B.map u64 → A = B
  | [], [], _ => rfl
  | [], b :: B, h => by simp at h
  | a :: A, [], h => by simp at h
  | a :: A, b :: B, h => by
    simp only [List.map_cons, List.cons.injEq, Value.int.injEq, true_and] at h
    rw [map_u64_inj h.2, show a = b by omega]

theorem ret_word {a b : Nat} (h : a = b) : u64 a = u64 b := by rw [h]

/-- The words of the second row, read while the first one is written: they may be the same row. -/
theorem read_other {w wr : World} {x y px py k : Nat} {Lx Rx Ly Ry V : List Nat} (hx : NatIs w x px Lx Rx) (hy : NatIs w y py Ly Ry) (hm : Mod [px] w wr)
    (hr : Blk wr px 98 ((V ++ Rx).map u64)) (hl : V.length = Lx.length) (hv : nth V k = nth Lx k) (hk : k < Lx.length) (hk2 : k < Ly.length) :
    wr.cell? ⟨py, k, none⟩ = some (u64 (nth Ly k)) := by
  by_cases e : py = px
  · subst e
    have := map_u64_inj (hx.row.ext hy.row).2
    rw [hr.at k (by simp; omega), nth_append_left (by omega), hv]
    have h2 : nth (Lx ++ Rx) k = nth (Ly ++ Ry) k := by rw [this]
    rw [nth_append_left hk, nth_append_left hk2] at h2
    rw [h2]
  · exact (hy.row.mod hm (by simpa using e)).at k (by simp; omega) |>.trans (by rw [nth_append_left hk2])

theorem NatIs.done {w w' : World} {x p : Nat} {L R V : List Nat} (h : NatIs w x p L R) (hm : Mod [p] w w') (hr : Blk w' p 98 ((V ++ R).map u64)) (hl : V.length = L.length) : NatIs w' x p V R :=
  h.put hl (hm.block x h.xlt (by simpa using h.ne)) hr

theorem row_set {wr : World} {p k v : Nat} {V R : List Nat} (h : Blk wr p 98 ((V ++ R).map u64)) (hk : k < V.length) :
    Blk (wr.setCell ⟨p, k, none⟩ (u64 v)) p 98 ((V.set k v ++ R).map u64) := by
  have := h.set k v
  rwa [List.set_append_left _ _ hk] at this

set_option maxRecDepth 100000 in
set_option maxHeartbeats 1600000 in
theorem c_add (x y px py : Nat) (Lx Rx Ly Ry : List Nat) (w : World) (hx : NatIs w x px Lx Rx) (hy : NatIs w y py Ly Ry) (hlen : Ly.length = Lx.length) (wx : Words Lx) (wy : Words Ly) :
    Calls Tryz.prog 97 #[ptr x, ptr y] w fun e w' =>
      e = .returned (u64 (addC Lx Ly Lx.length)) ∧ Mod [px] w w' ∧ NatIs w' x px (addL Lx Ly Lx.length) Rx := by
  have hcx := hx.cell
  have hcy := hy.cell
  have hcap := hx.cap
  have hcapy := hy.cap
  rw [hlen] at hcy
  have H1 := hide hlen
  have hle : Lx.length ≤ Lx.length + Ry.length := by omega
  clear hlen
  go_enter Tryz.func97, Tryz.ntmps97
  go_wp2_with fail
  go_loopw [4, 8] (fun c i wr => ∃ k : Nat, k ≤ Lx.length ∧ i = i64 k ∧ c = u64 (addC Lx Ly k) ∧ Mod [px] w wr ∧ Blk wr px 98 ((addL Lx Ly k ++ Rx).map u64)) (fun _ i _ => Lx.length - (intOf i).toNat)
  case atStart => exact ⟨0, Nat.zero_le _, rfl, rfl, Mod.refl _ _, hx.row⟩
  case round =>
    obtain ⟨k, hk, rfl, rfl, hm, hr⟩ := hrel
    by_cases hlt : k < Lx.length
    · have h1 : wr.cell? ⟨px, k, none⟩ = some (u64 (nth Lx k)) := by
        rw [hr.at k (by simp [addL_length]; omega), nth_append_left (by rw [addL_length]; exact hlt), addL_at _ _ (Nat.le_refl _)]
      have h2 := read_other hx hy hm hr (addL_length _ _ _) (addL_at _ _ (Nat.le_refl _)) hlt (by rw [H1.out]; exact hlt)
      have h3 := hr.frozen k
      have hc1 := addC_le wx wy k
      have hs : Hid (addHi (nth Lx k) (nth Ly k) (addC Lx Ly k) = addC Lx Ly (k + 1)) := hide rfl
      have hm2 : Mod [px] w (wr.setCell ⟨px, k, none⟩ (u64 (addLo (nth Lx k) (nth Ly k) (addC Lx Ly k)))).drew := (hm.setCell _ _ (by simp)).drew
      have hr2 : Blk (wr.setCell ⟨px, k, none⟩ (u64 (addLo (nth Lx k) (nth Ly k) (addC Lx Ly k)))).drew px 98 ((addL Lx Ly (k + 1) ++ Rx).map u64) :=
        row_set hr (by rw [addL_length]; exact hlt)
      clear hm hr
      go_wp2_with fail
      go_region_with (first | (go_at_call 114; refine (c_Add _ _ _ hc1 _).mono ?_; rintro e w' ⟨rfl, rfl⟩))
      all_goals go_wp2_with fail
      all_goals go_roundw
      all_goals first
        | exact ⟨k + 1, by omega, by go_num, ret_word hs.out, hm2, hr2⟩
        | (simp [intOf]; omega)
    · obtain rfl : k = Lx.length := by omega
      have hfin := hx.done hm hr (addL_length _ _ _)
      go_wp2_with fail
      go_ret
      exact ⟨rfl, hm, hfin⟩

set_option maxRecDepth 100000 in
set_option maxHeartbeats 1600000 in
theorem c_sub (x y px py : Nat) (Lx Rx Ly Ry : List Nat) (w : World) (hx : NatIs w x px Lx Rx) (hy : NatIs w y py Ly Ry) (hlen : Ly.length = Lx.length) :
    Calls Tryz.prog 96 #[ptr x, ptr y] w fun e w' =>
      e = .returned (u64 (subC Lx Ly Lx.length)) ∧ Mod [px] w w' ∧ NatIs w' x px (subL Lx Ly Lx.length) Rx := by
  have hcx := hx.cell
  have hcy := hy.cell
  have hcap := hx.cap
  have hcapy := hy.cap
  rw [hlen] at hcy
  have H1 := hide hlen
  have hle : Lx.length ≤ Lx.length + Ry.length := by omega
  clear hlen
  go_enter Tryz.func96, Tryz.ntmps96
  go_wp2_with fail
  go_loopw [4, 8] (fun c i wr => ∃ k : Nat, k ≤ Lx.length ∧ i = i64 k ∧ c = u64 (subC Lx Ly k) ∧ Mod [px] w wr ∧ Blk wr px 98 ((subL Lx Ly k ++ Rx).map u64)) (fun _ i _ => Lx.length - (intOf i).toNat)
  case atStart => exact ⟨0, Nat.zero_le _, rfl, rfl, Mod.refl _ _, hx.row⟩
  case round =>
    obtain ⟨k, hk, rfl, rfl, hm, hr⟩ := hrel
    by_cases hlt : k < Lx.length
    · have h1 : wr.cell? ⟨px, k, none⟩ = some (u64 (nth Lx k)) := by
        rw [hr.at k (by simp [subL_length]; omega), nth_append_left (by rw [subL_length]; exact hlt), subL_at _ _ (Nat.le_refl _)]
      have h2 := read_other hx hy hm hr (subL_length _ _ _) (subL_at _ _ (Nat.le_refl _)) hlt (by rw [H1.out]; exact hlt)
      have h3 := hr.frozen k
      have hc1 := subC_le Lx Ly k
      have hs : Hid (subHi (nth Lx k) (nth Ly k) (subC Lx Ly k) = subC Lx Ly (k + 1)) := hide rfl
      have hm2 : Mod [px] w (wr.setCell ⟨px, k, none⟩ (u64 (subLo (nth Lx k) (nth Ly k) (subC Lx Ly k)))).drew := (hm.setCell _ _ (by simp)).drew
      have hr2 : Blk (wr.setCell ⟨px, k, none⟩ (u64 (subLo (nth Lx k) (nth Ly k) (subC Lx Ly k)))).drew px 98 ((subL Lx Ly (k + 1) ++ Rx).map u64) :=
        row_set hr (by rw [subL_length]; exact hlt)
      clear hm hr
      go_wp2_with fail
      go_region_with (first | (go_at_call 111; refine (c_Sub _ _ _ hc1 _).mono ?_; rintro e w' ⟨rfl, rfl⟩))
      all_goals go_wp2_with fail
      all_goals go_roundw
      all_goals first
        | exact ⟨k + 1, by omega, by go_num, ret_word hs.out, hm2, hr2⟩
        | (simp [intOf]; omega)
    · obtain rfl : k = Lx.length := by omega
      have hfin := hx.done hm hr (subL_length _ _ _)
      go_wp2_with fail
      go_ret
      exact ⟨rfl, hm, hfin⟩

end Go.Proofs.YtkhopfobjijnlaaGreatDoor
namespace Go.Proofs.YtkhopfobjijnlaaGreatDoor

/-- One step: x * y + z + c in two words. -/
def stepLo (x y z c : Nat) : Nat := addLo (addLo (mulLo x y) z 0) c 0
def stepHi (x y z c : Nat) : Nat := addLo (addLo (mulHi x y) 0 (addHi (mulLo x y) z 0)) 0 (addHi (addLo (mulLo x y) z 0) c 0)
theorem stepLo_lt (x y z c : Nat) : stepLo x y z c < W := addLo_lt _ _ _
theorem stepHi_lt (x y z c : Nat) : stepHi x y z c < W := addLo_lt _ _ _
theorem addLo_small {x y c : Nat} (h : x + y + c < W) : addLo x y c = x + y + c := Nat.mod_eq_of_lt h
theorem step_eq {x y z c : Nat} (hx : x < W) (hy : y < W) (hz : z < W) (hc : c < W) : stepLo x y z c + W * stepHi x y z c = x * y + z + c := by
  have e1 := mul_eq x y
  have e2 := add_eq (mulLo x y) z 0
  have e3 := add_eq (addLo (mulLo x y) z 0) c 0
  have b1 := mulLo_lt x y
  have l1 := addLo_lt (mulLo x y) z 0
  have h1 := addHi_le (c := 0) b1 hz (by omega)
  have h2 := addHi_le (c := 0) l1 hc (by omega)
  have hprod : x * y ≤ (W - 1) * (W - 1) := Nat.mul_le_mul (by omega) (by omega)
  have hW := W_eq
  have hm : mulHi x y + addHi (mulLo x y) z 0 + addHi (addLo (mulLo x y) z 0) c 0 < W := by
    have : W * (mulHi x y + addHi (mulLo x y) z 0 + addHi (addLo (mulLo x y) z 0) c 0) ≤ x * y + z + c := by
      rw [Nat.mul_add, Nat.mul_add]
      omega
    have h3 : x * y + z + c < W * W := by
      have : (W - 1) * (W - 1) + (W - 1) + (W - 1) < W * W := by rw [W_eq]; omega
      omega
    exact Nat.lt_of_mul_lt_mul_left (Nat.lt_of_le_of_lt this h3)
  have f1 : addLo (mulHi x y) 0 (addHi (mulLo x y) z 0) = mulHi x y + addHi (mulLo x y) z 0 := addLo_small (by omega)
  have f2 : stepHi x y z c = mulHi x y + addHi (mulLo x y) z 0 + addHi (addLo (mulLo x y) z 0) c 0 := by
    unfold stepHi
    rw [f1]
    exact addLo_small (by omega)
  rw [f2]
  unfold stepLo
  rw [Nat.mul_add, Nat.mul_add]
  omega

/-- The carry behind i steps; the row Z from place oz on, taken up with X from place ox on times y. -/
def mulC (Z X : List Nat) (oz ox y : Nat) : Nat → Nat
  | 0 => 0
  | i + 1 => stepHi (nth X (ox + i)) y (nth Z (oz + i)) (mulC Z X oz ox y i)
def mulL (Z X : List Nat) (oz ox y : Nat) : Nat → List Nat
  | 0 => Z
  | i + 1 => (mulL Z X oz ox y i).set (oz + i) (stepLo (nth X (ox + i)) y (nth Z (oz + i)) (mulC Z X oz ox y i))
theorem mulC_lt (Z X : List Nat) (oz ox y i : Nat) : mulC Z X oz ox y i < W := by
  cases i with
  | zero => exact W_pos
  | succ i => exact stepHi_lt _ _ _ _
theorem mulL_length (Z X : List Nat) (oz ox y i : Nat) : (mulL Z X oz ox y i).length = Z.length := by
  induction i with
  | zero => rfl
  | succ i ih => simp [mulL, ih]
theorem mulL_words {Z : List Nat} (hZ : Words Z) (X : List Nat) (oz ox y i : Nat) : Words (mulL Z X oz ox y i) := by
  induction i with
  | zero => exact hZ
  | succ i ih => exact ih.set _ (stepLo_lt _ _ _ _)
theorem mulL_at (Z X : List Nat) (oz ox y : Nat) {i j : Nat} (h : oz + i ≤ j) : nth (mulL Z X oz ox y i) j = nth Z j := by
  induction i with
  | zero => rfl
  | succ i ih => simp only [mulL]; rw [nth_set_ne (by omega), ih (by omega)]
theorem mulL_below (Z X : List Nat) (oz ox y i : Nat) {j : Nat} (h : j < oz) : nth (mulL Z X oz ox y i) j = nth Z j := by
  induction i with
  | zero => rfl
  | succ i ih => simp only [mulL]; rw [nth_set_ne (by omega), ih]

/-- A piece of a row as a number. -/
def seg (Z : List Nat) (o : Nat) : Nat → Nat
  | 0 => 0
  | i + 1 => seg Z o i + W ^ i * nth Z (o + i)
theorem seg_lt {Z : List Nat} (h : Words Z) (o : Nat) : ∀ i, seg Z o i < W ^ i := by
  intro i
  induction i with
  | zero => simp [seg]
  | succ i ih =>
    simp only [seg, Nat.pow_succ]
    have := h.nth (o + i)
    have h2 : W ^ i * (nth Z (o + i) + 1) ≤ W ^ i * W := Nat.mul_le_mul_left _ this
    rw [Nat.mul_add] at h2
    omega
theorem seg_whole (Z : List Nat) : ∀ i, i ≤ Z.length → seg Z 0 i = val (Z.take i) := by
  intro i
  induction i with
  | zero => intro _; rfl
  | succ i ih =>
    intro h
    rw [val_take_succ (by omega), ← ih (by omega)]
    simp [seg]
theorem seg_congr {A B : List Nat} {o o' : Nat} : ∀ i, (∀ j, j < i → nth A (o + j) = nth B (o' + j)) → seg A o i = seg B o' i := by
  intro i
  induction i with
  | zero => intro _; rfl
  | succ i ih =>
    intro h
    simp only [seg]
    rw [ih (fun j hj => h j (by omega)), h i (by omega)]

theorem mulL_seg {Z X : List Nat} (hZ : Words Z) (hX : Words X) {oz ox y : Nat} (hy : y < W) : ∀ i, oz + i ≤ Z.length →
    seg (mulL Z X oz ox y i) oz i + W ^ i * mulC Z X oz ox y i = seg Z oz i + y * seg X ox i := by
  intro i
  induction i with
  | zero => intro _; simp [seg, mulC]
  | succ i ih =>
    intro h
    have e := ih (by omega)
    have s := step_eq (hX.nth (ox + i)) hy (hZ.nth (oz + i)) (mulC_lt Z X oz ox y i)
    simp only [seg, mulC, mulL]
    rw [nth_set_same (by rw [mulL_length]; omega)]
    have c : seg ((mulL Z X oz ox y i).set (oz + i) (stepLo (nth X (ox + i)) y (nth Z (oz + i)) (mulC Z X oz ox y i))) oz i = seg (mulL Z X oz ox y i) oz i :=
      seg_congr i fun j hj => nth_set_ne (by omega)
    rw [c]
    have e2 : W ^ i * stepLo (nth X (ox + i)) y (nth Z (oz + i)) (mulC Z X oz ox y i) + W ^ (i + 1) * stepHi (nth X (ox + i)) y (nth Z (oz + i)) (mulC Z X oz ox y i)
        = W ^ i * (nth X (ox + i) * y) + W ^ i * nth Z (oz + i) + W ^ i * mulC Z X oz ox y i := by
      rw [Nat.pow_succ, Nat.mul_assoc, ← Nat.mul_add, s, Nat.mul_add, Nat.mul_add]
    have e3 : y * (seg X ox i + W ^ i * nth X (ox + i)) = y * seg X ox i + W ^ i * (nth X (ox + i) * y) := by
      rw [Nat.mul_add]
      congr 1
      rw [Nat.mul_left_comm, Nat.mul_comm y]
    omega

end Go.Proofs.YtkhopfobjijnlaaGreatDoor
