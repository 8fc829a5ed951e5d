/- bigmod's rr: R * R modulo an odd modulus. -/
import Derived.Test.YtgejcabgcemllaaNatJ
import Derived.Test.YtgejcabgcemllaaWordsE
namespace Go.Proofs.Ytgejcabgcemllaa
open Go.RowKit

/-- A number by a power of 2. -/
def shv (n j : Nat) : Nat := n / 2 ^ j
theorem shv_int (n j : Nat) : (n : Int) / 2 ^ j = ((shv n j : Nat) : Int) := by
  unfold shv
  rw [Int.natCast_ediv, Int.natCast_pow]
  rfl
theorem shv_zero (n : Nat) : shv n 0 = n := by simp [shv]
theorem shv_succ (n j : Nat) : shv n j = 2 * shv n (j + 1) + shv n j % 2 := by
  unfold shv
  rw [Nat.pow_succ, ← Nat.div_div_eq_div_mul]
  omega
theorem shv_le (n j : Nat) : shv n j ≤ n := Nat.div_le_self _ _

set_option maxRecDepth 100000 in
set_option maxHeartbeats 4000000 in
theorem c_rr (m y q k : Nat) (odd : Bool) (r : Value) (M Q : List Nat) (w : World) (hm : MHead w m y odd k r) (hy : NatIs w y q M Q)
    (wM : Words M) (hn : 0 < M.length) (hnb : M.length ≤ 20000) (htop : nth M (M.length - 1) ≠ 0) (h1 : 1 < val M) (hodd : val M % 2 = 1) (hk : (k * nth M 0) % W = W - 1) :
    Calls Try.prog 58 #[ptr m] w fun e w' =>
      ∃ x p X R, e = .returned (ptr x) ∧ Mod [] w w' ∧ NatIs w' x p X R ∧ w.heap.size ≤ x ∧ w.heap.size ≤ p ∧ Below' X M ∧ val X = (W ^ M.length * W ^ M.length) % val M := by
  have HN := hide hn
  obtain ⟨lr, hlr⟩ : ∃ lr : Nat, lr = 64 * M.length := ⟨_, rfl⟩
  have e3 : (64 : Int) * (M.length : Int) = (lr : Int) := by omega
  have hlr1 : lr ≤ 64 * M.length := by omega
  have hlr2 : 64 * M.length ≤ lr := by omega
  have HLR := hide hlr
  clear hlr
  go_enter Try.func58, Try.ntmps58
  go_wp2_with fail
  refine (c_NewNat _).mono ?_
  rintro e w1 ⟨x, p, rfl, m1, hx1, g1, g2⟩
  have hm1 : MHead w1 m y odd k r := Blk.mod hm m1 (by simp)
  have hy1 := hy.mod m1 (by simp) (by simp)
  go_wp2_with fail
  refine (c_ExpandFor x p m y q k odd r [] _ M Q _ hx1 hm1 hy1 (by simp)).mono ?_
  rintro e w2 ⟨p2, R2, rfl, m2, hx2, k2⟩
  rw [padTo_nil] at hx2
  have hp2 : w.heap.size ≤ p2 := k2.ge g2 m1.size
  have m12 : Mod [] w w2 := Mod.trans (U := []) m1 m2 (by simp) (by simp; omega)
  have hm2 : MHead w2 m y odd k r := Blk.mod hm m12 (by simp)
  have hy2 := hy.mod m12 (by simp) (by simp)
  have hc2 := hx2.cell
  simp only [List.length_replicate] at hc2
  have e1 : IntKind.u64.wrap (M.length : Int) = (M.length : Int) := by rw [IntKind.wrap_u64]; omega
  clear m1 m2 hm1 hy1 hx1 k2
  go_wp2_with fail
  refine (c_BitLen m y q k odd r M Q _ hm2 hy2 wM).mono ?_; rintro e w' ⟨rfl, rfl⟩
  have hB0 := blen_top wM hn htop
  have hB1 := blen_word_le (wM.nth (M.length - 1))
  have hB2 : 1 ≤ blen (nth M (M.length - 1)) := by unfold blen; rw [if_neg htop]; omega
  have hrow1 := first_row wM hn htop
  obtain ⟨B, hB⟩ : ∃ B, B = blen (val M) := ⟨_, rfl⟩
  rw [← hB] at hrow1 hB0 ⊢
  have hB3 : 1 ≤ B := by omega
  have hB4 : B ≤ 64 * M.length := by omega
  have HB := hide hB
  have HR1 := hide hrow1
  obtain ⟨pw, hpw⟩ : ∃ pw : Nat, pw = 2 ^ ((B - 1) % 64) := ⟨_, rfl⟩
  rw [← hpw] at hrow1
  have hpwW : pw < W := by
    rw [hpw, W_two]
    exact Nat.pow_lt_pow_right (by omega) (Nat.mod_lt _ (by omega))
  have e2 : IntKind.u64.wrap (2 ^ ((B - 1) % 64)) = (pw : Int) := by
    have h := wrapW pw
    rw [Nat.mod_eq_of_lt hpwW] at h
    rw [← h, hpw]
    congr 1
  have HR1 := hide hrow1
  have hcp := hx2.at (M.length - 1) (by simp; omega)
  have hfp := hx2.row.frozen (M.length - 1)
  obtain ⟨X0, hX0⟩ : ∃ X0, X0 = (List.replicate M.length 0).set (M.length - 1) pw := ⟨_, rfl⟩
  have hx3 : NatIs (w2.setCell ⟨p2, M.length - 1, none⟩ (u64 pw)) x p2 X0 R2 := by
    have hr := row_set (v := pw) hx2.row (k := M.length - 1) (by simp; omega)
    rw [← hX0] at hr
    exact hx2.put (by rw [hX0]; simp) (Below.heap_setCell _ _ _ _ hx2.ne) hr
  have hM3 : Mod [] w (w2.setCell ⟨p2, M.length - 1, none⟩ (u64 pw)) := m12.setCell _ _ (by simp; omega)
  have hX0v : val X0 = (1 * 2 ^ (B - 1)) % val M := by
    rw [hX0, hrow1, Nat.one_mul, Nat.mod_eq_of_lt]
    rw [hB]
    exact pow_below h1 hodd
  have hX0b : Below' X0 M := ⟨by rw [hX0]; simp, by rw [hX0]; exact (Words.replicate0 _).set _ hpwW, by rw [hX0v]; exact Nat.mod_lt _ (by omega)⟩
  have HX0v := hide hX0v
  clear hB hB0 hB1 hB2 hrow1 hX0v hX0 hpw m12
  go_wp2_with fail
  rw [e2]
  clear e2
  go_loopw [7] (fun i wr => ∃ (j : Nat) (X : List Nat), B ≤ j + 1 ∧ j ≤ lr ∧ i = u64 j ∧ Mod [] w wr ∧ NatIs wr x p2 X R2 ∧ Below' X M ∧ Hid (val X = (1 * 2 ^ j) % val M)) (fun i _ => lr - (intOf i).toNat)
  case atStart => exact ⟨B - 1, X0, by omega, by omega, by go_num, hM3, hx3, hX0b, HX0v⟩
  case round =>
    obtain ⟨j, X, hj1, hj2, rfl, hmr, hxr, hbX, hvX⟩ := hrel
    have hmr2 : MHead wr m y odd k r := Blk.mod hm hmr (by simp)
    have hyr := hy.mod hmr (by simp) (by simp)
    have hlq := hy.plt
    by_cases hlt : j < lr
    · go_wp2_with fail
      refine (c_Add' x p2 x p2 m y q k odd r X R2 X R2 M Q _ hxr hxr hmr2 hyr hbX hbX wM (by omega)).mono ?_
      rintro e w4 ⟨X', rfl, m4, hx4, hb4, hv4⟩
      have hv5 : Hid (val X' = (1 * 2 ^ (j + 1)) % val M) := hide (by rw [hv4]; exact dbl_pow hvX.out)
      have hm5 : Mod [] w w4 := Mod.trans (U := []) hmr m4 (by simp) (by simp; omega)
      clear hv4 m4 hxr hbX hvX
      go_wp2_with fail
      go_roundw
      case rel => exact ⟨j + 1, X', by omega, by omega, by go_num, hm5, hx4, hb4, hv5⟩
      case measure => simp [intOf]; omega
    · obtain rfl : lr = j := by omega
      have hvR : Hid (val X = (W ^ M.length * 2 ^ 0) % val M) := hide (by rw [hvX.out, Nat.one_mul, W_pow, HLR.out, Nat.pow_zero, Nat.mul_one])
      clear hvX hj1 hj2 hlt
      obtain ⟨wo, rfl⟩ : ∃ wo : World, wo = wr := ⟨_, rfl⟩
      go_wp2_with fail
      go_loop [9] (fun i => ∃ j : Nat, j ≤ 64 ∧ i = i64 j) (fun i => (intOf i).toNat)
      case atStart => exact ⟨64, by omega, rfl⟩
      case round =>
        obtain ⟨j, hj, rfl⟩ := hrel
        have hdiv := shv_int lr j
        by_cases hle : shv lr j ≤ M.length / 4
        · have hj0 : 0 < j := by
            rcases Nat.eq_zero_or_pos j with h | h
            · subst h; rw [shv_zero] at hle; omega
            · exact h
          go_wp2_with fail
          go_round
          case rel => exact ⟨j - 1, by omega, by go_num⟩
          case measure => simp [intOf]; omega
        · go_wp2_with fail
          go_loopw [10] (fun i wr => ∃ (c : Nat) (X : List Nat), c ≤ shv lr j ∧ i = u64 c ∧ Mod [] w wr ∧ NatIs wr x p2 X R2 ∧ Below' X M ∧ Hid (val X = (W ^ M.length * 2 ^ c) % val M)) (fun i _ => shv lr j - (intOf i).toNat)
          case atStart => exact ⟨0, X, by omega, rfl, hmr, hxr, hbX, hvR⟩
          case round =>
            clear hmr hxr hbX hvR hmr2 hyr X
            obtain ⟨c, X, hc, rfl, hmr, hxr, hbX, hvX⟩ := hrel
            have hmr2 : MHead wr m y odd k r := Blk.mod hm hmr (by simp)
            have hyr := hy.mod hmr (by simp) (by simp)
            have hlq := hy.plt
            have hshl := shv_le lr j
            by_cases hlt : c < shv lr j
            · go_wp2_with fail
              refine (c_Add' x p2 x p2 m y q k odd r X R2 X R2 M Q _ hxr hxr hmr2 hyr hbX hbX wM (by omega)).mono ?_
              rintro e w4 ⟨X', rfl, m4, hx4, hb4, hv4⟩
              have hv5 : Hid (val X' = (W ^ M.length * 2 ^ (c + 1)) % val M) := hide (by rw [hv4]; exact dbl_pow hvX.out)
              have hm5 : Mod [] w w4 := Mod.trans (U := []) hmr m4 (by simp) (by simp; omega)
              clear hv4 m4 hxr hbX hvX
              go_wp2_with fail
              go_roundw
              case rel => exact ⟨c + 1, X', by omega, by go_num, hm5, hx4, hb4, hv5⟩
              case measure => simp [intOf]; omega
            · obtain rfl : shv lr j = c := by omega
              obtain ⟨wo2, rfl⟩ : ∃ wo : World, wo = wr := ⟨_, rfl⟩
              clear hle hshl
              go_wp2_with fail
              clear hdiv hlt
              go_loopw [9] (fun i wr => ∃ (j p : Nat) (X R : List Nat), j ≤ 64 ∧ i = i64 j ∧ Mod [] w wr ∧ NatIs wr x p X R ∧ w.heap.size ≤ p ∧ Below' X M ∧ Hid (val X = (W ^ M.length * 2 ^ (shv lr j)) % val M)) (fun i _ => (intOf i).toNat)
              case atStart => exact ⟨j, p2, X, R2, hj, rfl, hmr, hxr, hp2, hbX, hvX⟩
              case round =>
                clear hmr hxr hbX hvX hmr2 hyr X hp2 hj
                obtain ⟨j, p2, X, R2, hj, rfl, hmr, hxr, hp2, hbX, hvX⟩ := hrel
                have hmr2 : MHead wr m y odd k r := Blk.mod hm hmr (by simp)
                have hyr := hy.mod hmr (by simp) (by simp)
                have hly := hy.xlt
                have hcop := hide (cop_W hodd M.length)
                by_cases hj0 : 0 < j
                · obtain ⟨j, rfl⟩ : ∃ j', j = j' + 1 := ⟨j - 1, by omega⟩
                  have hdiv := shv_int lr j
                  have hlw : shv lr j < W := by have := shv_le lr j; rw [W_eq]; omega
                  have hand := and_one_word hlw
                  have hstep := hide (shv_succ lr j)
                  clear hlw hj0
                  go_wp2_with fail
                  refine (c_montMul x p2 x p2 x p2 m y q k odd r X R2 X R2 X R2 M Q _ hxr hxr hxr hmr2 hyr hbX hbX.len hbX.words wM HN.out hnb hk (by omega) (by omega)).mono ?_
                  rintro e w4 ⟨p3, X', R3, rfl, m4, hx4, k4, hmt⟩
                  have hv4 : Hid (val X' = (W ^ M.length * 2 ^ (2 * shv lr (j + 1))) % val M) := hide (sq_pow hcop.out hvX.out hmt.below.lt hmt.eq)
                  have hp3 : w.heap.size ≤ p3 := k4.ge hp2 hmr.size
                  have hm5 : Mod [] w w4 := Mod.trans (U := []) hmr m4 (by simp) (by simp; omega)
                  have hmr4 : MHead w4 m y odd k r := Blk.mod hm hm5 (by simp)
                  have hyr4 := hy.mod hm5 (by simp) (by simp)
                  have hb4 := hmt.below
                  clear hmt m4 k4 hvX hbX hxr hmr2 hyr hmr
                  rcases Nat.mod_two_eq_zero_or_one (shv lr j) with hbit | hbit
                  · have hv5 : Hid (val X' = (W ^ M.length * 2 ^ (shv lr j)) % val M) := hide (by rw [hv4.out, hstep.out, hbit]; rfl)
                    clear hv4 hstep
                    rw [hbit] at hand
                    clear hbit
                    go_wp2_with fail
                    go_roundw
                    case rel => exact ⟨j, p3, X', R3, by omega, by go_num, hm5, hx4, hp3, hb4, hv5⟩
                    case measure => simp [intOf]
                  · rw [hbit] at hand
                    have HBIT := hide hbit
                    clear hbit
                    go_wp2_with fail
                    refine (c_Add' x p3 x p3 m y q k odd r X' R3 X' R3 M Q _ hx4 hx4 hmr4 hyr4 hb4 hb4 wM (by omega)).mono ?_
                    rintro e w5 ⟨X5, rfl, m5, hx5, hb5, hv5⟩
                    have hv6 : Hid (val X5 = (W ^ M.length * 2 ^ (shv lr j)) % val M) := hide (by rw [hv5, dbl_pow hv4.out, hstep.out, HBIT.out])
                    have hm6 : Mod [] w w5 := Mod.trans (U := []) hm5 m5 (by simp) (by simp; omega)
                    clear hv5 hv4 m5 hm5 hx4 hb4
                    go_wp2_with fail
                    go_roundw
                    case rel => exact ⟨j, p3, X5, R3, by omega, by go_num, hm6, hx5, hp3, hb5, hv6⟩
                    case measure => simp [intOf]
                · obtain rfl : j = 0 := by omega
                  have hfin : val X = (W ^ M.length * W ^ M.length) % val M := by
                    rw [hvX.out, shv_zero, HLR.out, W_pow]
                  have HF := hide hfin
                  clear hfin
                  go_wp2_with fail
                  go_ret
                  exact ⟨x, p2, X, R2, rfl, hmr, hxr, g1, hp2, hbX, HF.out⟩

end Go.Proofs.Ytgejcabgcemllaa
