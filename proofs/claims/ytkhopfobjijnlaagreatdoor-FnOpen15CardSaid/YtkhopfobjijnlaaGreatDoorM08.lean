/- Powers of 2 modulo an odd number, as bigmod's rr makes them. No condition. bigmod's rr: R * R modulo an odd modulus. Bytes in memory, numbers of bytes, and the contracts of bigmod's reading of bytes. -/
import Derived.Test.YtkhopfobjijnlaaGreatDoorM05
import Derived.Test.YtkhopfobjijnlaaGreatDoorM07
set_option linter.all false
namespace Go.Proofs.YtkhopfobjijnlaaGreatDoor

theorem cop_two {m : Nat} (h : m % 2 = 1) : Nat.Coprime 2 m := by
  unfold Nat.Coprime
  rw [Nat.gcd_rec, h]
  rfl
theorem cop_W {m : Nat} (h : m % 2 = 1) (n : Nat) : Nat.Coprime (W ^ n) m := by
  rw [W_pow]
  exact (cop_two h).pow_left _

theorem dvd_of_mods {a b m : Nat} (h : a % m = b % m) : m ∣ a - b := by
  have ha := Nat.div_add_mod a m
  have hb := Nat.div_add_mod b m
  refine ⟨a / m - b / m, ?_⟩
  rw [Nat.mul_sub]
  omega
theorem mods_of_dvd {a b m : Nat} (hab : b ≤ a) (h : m ∣ a - b) : a % m = b % m := by
  obtain ⟨c, hc⟩ := h
  have : a = b + m * c := by omega
  rw [this, Nat.add_mul_mod_self_left]

/-- What is the same modulo m when it is taken times a number prime to m is the same modulo m. -/
theorem mod_cancel {a b r m : Nat} (hc : Nat.Coprime r m) (h : (a * r) % m = (b * r) % m) : a % m = b % m := by
  have key : ∀ a b : Nat, b ≤ a → (a * r) % m = (b * r) % m → a % m = b % m := by
    intro a b hab h
    have hd : m ∣ a * r - b * r := dvd_of_mods h
    rw [← Nat.sub_mul] at hd
    have hd2 : m ∣ a - b := (Nat.Coprime.symm hc).dvd_of_dvd_mul_right hd
    exact mods_of_dvd hab hd2
  rcases Nat.le_total b a with hab | hab
  · exact key a b hab h
  · exact (key b a hab h.symm).symm

theorem mod_cancel_lt {a b r m : Nat} (hc : Nat.Coprime r m) (ha : a < m) (hb : b < m) (h : (a * r) % m = (b * r) % m) : a = b := by
  have := mod_cancel hc h
  rwa [Nat.mod_eq_of_lt ha, Nat.mod_eq_of_lt hb] at this

/-- 2 to the j modulo m, twice that. -/
theorem dbl_pow {m c j a : Nat} (ha : a = (c * 2 ^ j) % m) : (a + a) % m = (c * 2 ^ (j + 1)) % m := by
  rw [ha, ← Nat.add_mod, Nat.pow_succ, ← Nat.mul_assoc, Nat.mul_two]

/-- A square by Montgomery: R times 2 to the e becomes R times 2 to the 2 e. -/
theorem sq_pow {m R e x x' : Nat} (hc : Nat.Coprime R m) (hx : x = (R * 2 ^ e) % m) (hlt : x' < m) (h : (x' * R) % m = (x * x) % m) : x' = (R * 2 ^ (2 * e)) % m := by
  refine mod_cancel_lt hc hlt (Nat.mod_lt _ (by omega)) ?_
  rw [h, hx, ← Nat.mul_mod, Nat.mod_mul_mod]
  congr 1
  rw [Nat.two_mul, Nat.pow_add]
  ac_rfl

theorem blen_word_le {n : Nat} (h : n < W) : blen n ≤ 64 := by
  unfold blen
  split
  · omega
  · rename_i h0
    have := (Nat.log2_lt h0 (k := 64)).2 (by rw [W_two] at h; exact h)
    omega

theorem blen_top {M : List Nat} (wM : Words M) (hn : 0 < M.length) (htop : nth M (M.length - 1) ≠ 0) : blen (val M) = (M.length - 1) * 64 + blen (nth M (M.length - 1)) := by
  have := rowBits_eq wM M.length (Nat.le_refl _)
  rw [List.take_length] at this
  rw [← this]
  obtain ⟨k, hk⟩ : ∃ k, M.length = k + 1 := ⟨M.length - 1, by omega⟩
  rw [hk] at htop ⊢
  simp only [rowBits]
  rw [show k + 1 - 1 = k by omega] at htop ⊢
  rw [if_neg htop]

/-- The greatest power of 2 below an odd number. -/
theorem pow_below {m : Nat} (h1 : 1 < m) (hodd : m % 2 = 1) : 2 ^ (blen m - 1) < m := by
  have h := two_blen_le (n := m) (by omega)
  rcases Nat.lt_or_ge (2 ^ (blen m - 1)) m with h2 | h2
  · exact h2
  · have e : m = 2 ^ (blen m - 1) := by omega
    cases hb : blen m - 1 with
    | zero => rw [hb] at e; simp at e; omega
    | succ k => rw [hb, Nat.pow_succ] at e; omega

theorem val_set_zero (n : Nat) {i v : Nat} (hi : i < n) : val ((List.replicate n 0).set i v) = W ^ i * v := by
  rw [val_split _ (i + 1) (by simp; omega), take_succ_set (by simpa using hi)]
  have e1 : (List.replicate n 0).take i = List.replicate i 0 := by simp [Nat.min_eq_left (show i ≤ n by omega)]
  have e2 : ((List.replicate n 0).set i v).drop (i + 1) = List.replicate (n - (i + 1)) 0 := by
    rw [List.drop_set_of_lt (by omega)]
    simp
  rw [e1, e2, val_replicate0, val_replicate0]
  omega

/-- rr's first row: the highest power of 2 below the modulus. -/
theorem first_row {M : List Nat} (wM : Words M) (hn : 0 < M.length) (htop : nth M (M.length - 1) ≠ 0) :
    val ((List.replicate M.length 0).set (M.length - 1) (2 ^ ((blen (val M) - 1) % 64))) = 2 ^ (blen (val M) - 1) := by
  rw [val_set_zero _ (by omega), W_pow, ← Nat.pow_add]
  congr 1
  have h := blen_top wM hn htop
  have h64 := blen_word_le (wM.nth (M.length - 1))
  have hp : 1 ≤ blen (nth M (M.length - 1)) := by unfold blen; rw [if_neg htop]; omega
  omega

end Go.Proofs.YtkhopfobjijnlaaGreatDoor
namespace Go.Proofs.YtkhopfobjijnlaaGreatDoor
open Go.RowKit

/-- A number by a power of 2. -/
def shv (n j : Nat) : Nat := n / 2 ^ j
theorem shv_int (n j : Nat) : (n : Int) / 2 ^ j = ((shv n j : Nat) : Int) := by
  unfold shv
  rw [Int.natCast_ediv, Int.natCast_pow]
  rfl
theorem shv_zero (n : Nat) : shv n 0 = n := by simp [shv]
theorem shv_succ (n j : Nat) : shv n j = 2 * shv n (j + 1) + shv n j % 2 := by
  unfold shv
  rw [Nat.pow_succ, ← Nat.div_div_eq_div_mul]
  omega
theorem shv_le (n j : Nat) : shv n j ≤ n := Nat.div_le_self _ _

set_option maxRecDepth 100000 in
set_option maxHeartbeats 4000000 in
theorem c_rr (m y q k : Nat) (odd : Bool) (r : Value) (M Q : List Nat) (w : World) (hm : MHead w m y odd k r) (hy : NatIs w y q M Q)
    (wM : Words M) (hn : 0 < M.length) (hnb : M.length ≤ 20000) (htop : nth M (M.length - 1) ≠ 0) (h1 : 1 < val M) (hodd : val M % 2 = 1) (hk : (k * nth M 0) % W = W - 1) :
    Calls Tryz.prog 109 #[ptr m] w fun e w' =>
      ∃ x p X R, e = .returned (ptr x) ∧ Mod [] w w' ∧ NatIs w' x p X R ∧ w.heap.size ≤ x ∧ w.heap.size ≤ p ∧ Below' X M ∧ val X = (W ^ M.length * W ^ M.length) % val M := by
  have HN := hide hn
  obtain ⟨lr, hlr⟩ : ∃ lr : Nat, lr = 64 * M.length := ⟨_, rfl⟩
  have e3 : (64 : Int) * (M.length : Int) = (lr : Int) := by omega
  have hlr1 : lr ≤ 64 * M.length := by omega
  have hlr2 : 64 * M.length ≤ lr := by omega
  have HLR := hide hlr
  clear hlr
  go_enter Tryz.func109, Tryz.ntmps109
  go_wp2_with fail
  refine (c_NewNat _).mono ?_
  rintro e w1 ⟨x, p, rfl, m1, hx1, g1, g2⟩
  have hm1 : MHead w1 m y odd k r := Blk.mod hm m1 (by simp)
  have hy1 := hy.mod m1 (by simp) (by simp)
  go_wp2_with fail
  refine (c_ExpandFor x p m y q k odd r [] _ M Q _ hx1 hm1 hy1 (by simp)).mono ?_
  rintro e w2 ⟨p2, R2, rfl, m2, hx2, k2⟩
  rw [padTo_nil] at hx2
  have hp2 : w.heap.size ≤ p2 := k2.ge g2 m1.size
  have m12 : Mod [] w w2 := Mod.trans (U := []) m1 m2 (by simp) (by simp; omega)
  have hm2 : MHead w2 m y odd k r := Blk.mod hm m12 (by simp)
  have hy2 := hy.mod m12 (by simp) (by simp)
  have hc2 := hx2.cell
  simp only [List.length_replicate] at hc2
  have e1 : IntKind.u64.wrap (M.length : Int) = (M.length : Int) := by rw [IntKind.wrap_u64]; omega
  clear m1 m2 hm1 hy1 hx1 k2
  go_wp2_with fail
  refine (c_BitLen m y q k odd r M Q _ hm2 hy2 wM).mono ?_; rintro e w' ⟨rfl, rfl⟩
  have hB0 := blen_top wM hn htop
  have hB1 := blen_word_le (wM.nth (M.length - 1))
  have hB2 : 1 ≤ blen (nth M (M.length - 1)) := by unfold blen; rw [if_neg htop]; omega
  have hrow1 := first_row wM hn htop
  obtain ⟨B, hB⟩ : ∃ B, B = blen (val M) := ⟨_, rfl⟩
  rw [← hB] at hrow1 hB0 ⊢
  have hB3 : 1 ≤ B := by omega
  have hB4 : B ≤ 64 * M.length := by omega
  have HB := hide hB
  have HR1 := hide hrow1
  obtain ⟨pw, hpw⟩ : ∃ pw : Nat, pw = 2 ^ ((B - 1) % 64) := ⟨_, rfl⟩
  rw [← hpw] at hrow1
  have hpwW : pw < W := by
    rw [hpw, W_two]
    exact Nat.pow_lt_pow_right (by omega) (Nat.mod_lt _ (by omega))
  have e2 : IntKind.u64.wrap (2 ^ ((B - 1) % 64)) = (pw : Int) := by
    have h := wrapW pw
    rw [Nat.mod_eq_of_lt hpwW] at h
    rw [← h, hpw]
    congr 1
  have HR1 := hide hrow1
  have hcp := hx2.at (M.length - 1) (by simp; omega)
  have hfp := hx2.row.frozen (M.length - 1)
  obtain ⟨X0, hX0⟩ : ∃ X0, X0 = (List.replicate M.length 0).set (M.length - 1) pw := ⟨_, rfl⟩
  have hx3 : NatIs (w2.setCell ⟨p2, M.length - 1, none⟩ (u64 pw)) x p2 X0 R2 := by
    have hr := row_set (v := pw) hx2.row (k := M.length - 1) (by simp; omega)
    rw [← hX0] at hr
    exact hx2.put (by rw [hX0]; simp) (Below.heap_setCell _ _ _ _ hx2.ne) hr
  have hM3 : Mod [] w (w2.setCell ⟨p2, M.length - 1, none⟩ (u64 pw)) := m12.setCell _ _ (by simp; omega)
  have hX0v : val X0 = (1 * 2 ^ (B - 1)) % val M := by
    rw [hX0, hrow1, Nat.one_mul, Nat.mod_eq_of_lt]
    rw [hB]
    exact pow_below h1 hodd
  have hX0b : Below' X0 M := ⟨by rw [hX0]; simp, by rw [hX0]; exact (Words.replicate0 _).set _ hpwW, by rw [hX0v]; exact Nat.mod_lt _ (by omega)⟩
  have HX0v := hide hX0v
  clear hB hB0 hB1 hB2 hrow1 hX0v hX0 hpw m12
  go_wp2_with fail
  rw [e2]
  clear e2
  go_loopw [7] (fun i wr => ∃ (j : Nat) (X : List Nat), B ≤ j + 1 ∧ j ≤ lr ∧ i = u64 j ∧ Mod [] w wr ∧ NatIs wr x p2 X R2 ∧ Below' X M ∧ Hid (val X = (1 * 2 ^ j) % val M)) (fun i _ => lr - (intOf i).toNat)
  case atStart => exact ⟨B - 1, X0, by omega, by omega, by go_num, hM3, hx3, hX0b, HX0v⟩
  case round =>
    obtain ⟨j, X, hj1, hj2, rfl, hmr, hxr, hbX, hvX⟩ := hrel
    have hmr2 : MHead wr m y odd k r := Blk.mod hm hmr (by simp)
    have hyr := hy.mod hmr (by simp) (by simp)
    have hlq := hy.plt
    by_cases hlt : j < lr
    · go_wp2_with fail
      refine (c_Add' x p2 x p2 m y q k odd r X R2 X R2 M Q _ hxr hxr hmr2 hyr hbX hbX wM (by omega)).mono ?_
      rintro e w4 ⟨X', rfl, m4, hx4, hb4, hv4⟩
      have hv5 : Hid (val X' = (1 * 2 ^ (j + 1)) % val M) := hide (by rw [hv4]; exact dbl_pow hvX.out)
      have hm5 : Mod [] w w4 := Mod.trans (U := []) hmr m4 (by simp) (by simp; omega)
      clear hv4 m4 hxr hbX hvX
      go_wp2_with fail
      go_roundw
      case rel => exact ⟨j + 1, X', by omega, by omega, by go_num, hm5, hx4, hb4, hv5⟩
      case measure => simp [intOf]; omega
    · obtain rfl : lr = j := by omega
      have hvR : Hid (val X = (W ^ M.length * 2 ^ 0) % val M) := hide (by rw [hvX.out, Nat.one_mul, W_pow, HLR.out, Nat.pow_zero, Nat.mul_one])
      clear hvX hj1 hj2 hlt
      obtain ⟨wo, rfl⟩ : ∃ wo : World, wo = wr := ⟨_, rfl⟩
      go_wp2_with fail
      go_loop [9] (fun i => ∃ j : Nat, j ≤ 64 ∧ i = i64 j) (fun i => (intOf i).toNat)
      case atStart => exact ⟨64, by omega, rfl⟩
      case round =>
        obtain ⟨j, hj, rfl⟩ := hrel
        have hdiv := shv_int lr j
        by_cases hle : shv lr j ≤ M.length / 4
        · have hj0 : 0 < j := by
            rcases Nat.eq_zero_or_pos j with h | h
            · subst h; rw [shv_zero] at hle; omega
            · exact h
          go_wp2_with fail
          go_round
          case rel => exact ⟨j - 1, by omega, by go_num⟩
          case measure => simp [intOf]; omega
        · go_wp2_with fail
          go_loopw [10] (fun i wr => ∃ (c : Nat) (X : List Nat), c ≤ shv lr j ∧ i = u64 c ∧ Mod [] w wr ∧ NatIs wr x p2 X R2 ∧ Below' X M ∧ Hid (val X = (W ^ M.length * 2 ^ c) % val M)) (fun i _ => shv lr j - (intOf i).toNat)
          case atStart => exact ⟨0, X, by omega, rfl, hmr, hxr, hbX, hvR⟩
          case round =>
            clear hmr hxr hbX hvR hmr2 hyr X
            obtain ⟨c, X, hc, rfl, hmr, hxr, hbX, hvX⟩ := hrel
            have hmr2 : MHead wr m y odd k r := Blk.mod hm hmr (by simp)
            have hyr := hy.mod hmr (by simp) (by simp)
            have hlq := hy.plt
            have hshl := shv_le lr j
            by_cases hlt : c < shv lr j
            · go_wp2_with fail
              refine (c_Add' x p2 x p2 m y q k odd r X R2 X R2 M Q _ hxr hxr hmr2 hyr hbX hbX wM (by omega)).mono ?_
              rintro e w4 ⟨X', rfl, m4, hx4, hb4, hv4⟩
              have hv5 : Hid (val X' = (W ^ M.length * 2 ^ (c + 1)) % val M) := hide (by rw [hv4]; exact dbl_pow hvX.out)
              have hm5 : Mod [] w w4 := Mod.trans (U := []) hmr m4 (by simp) (by simp; omega)
              clear hv4 m4 hxr hbX hvX
              go_wp2_with fail
              go_roundw
              case rel => exact ⟨c + 1, X', by omega, by go_num, hm5, hx4, hb4, hv5⟩
              case measure => simp [intOf]; omega
            · obtain rfl : shv lr j = c := by omega
              obtain ⟨wo2, rfl⟩ : ∃ wo : World, wo = wr := ⟨_, rfl⟩
              clear hle hshl
              go_wp2_with fail
              clear hdiv hlt
              go_loopw [9] (fun i wr => ∃ (j p : Nat) (X R : List Nat), j ≤ 64 ∧ i = i64 j ∧ Mod [] w wr ∧ NatIs wr x p X R ∧ w.heap.size ≤ p ∧ Below' X M ∧ Hid (val X = (W ^ M.length * 2 ^ (shv lr j)) % val M)) (fun i _ => (intOf i).toNat)
              case atStart => exact ⟨j, p2, X, R2, hj, rfl, hmr, hxr, hp2, hbX, hvX⟩
              case round =>
                clear hmr hxr hbX hvX hmr2 hyr X hp2 hj
                obtain ⟨j, p2, X, R2, hj, rfl, hmr, hxr, hp2, hbX, hvX⟩ := hrel
                have hmr2 : MHead wr m y odd k r := Blk.mod hm hmr (by simp)
                have hyr := hy.mod hmr (by simp) (by simp)
                have hly := hy.xlt
                have hcop := hide (cop_W hodd M.length)
                by_cases hj0 : 0 < j
                · obtain ⟨j, rfl⟩ : ∃ j', j = j' + 1 := ⟨j - 1, by omega⟩
                  have hdiv := shv_int lr j
                  have hlw : shv lr j < W := by have := shv_le lr j; rw [W_eq]; omega
                  have hand := and_one_word hlw
                  have hstep := hide (shv_succ lr j)
                  clear hlw hj0
                  go_wp2_with fail
                  refine (c_montMul x p2 x p2 x p2 m y q k odd r X R2 X R2 X R2 M Q _ hxr hxr hxr hmr2 hyr hbX hbX.len hbX.words wM HN.out hnb hk (by omega) (by omega)).mono ?_
                  rintro e w4 ⟨p3, X', R3, rfl, m4, hx4, k4, hmt⟩
                  have hv4 : Hid (val X' = (W ^ M.length * 2 ^ (2 * shv lr (j + 1))) % val M) := hide (sq_pow hcop.out hvX.out hmt.below.lt hmt.eq)
                  have hp3 : w.heap.size ≤ p3 := k4.ge hp2 hmr.size
                  have hm5 : Mod [] w w4 := Mod.trans (U := []) hmr m4 (by simp) (by simp; omega)
                  have hmr4 : MHead w4 m y odd k r := Blk.mod hm hm5 (by simp)
                  have hyr4 := hy.mod hm5 (by simp) (by simp)
                  have hb4 := hmt.below
                  clear hmt m4 k4 hvX hbX hxr hmr2 hyr hmr
                  rcases Nat.mod_two_eq_zero_or_one (shv lr j) with hbit | hbit
                  · have hv5 : Hid (val X' = (W ^ M.length * 2 ^ (shv lr j)) % val M) := hide (by rw [hv4.out, hstep.out, hbit]; rfl)
                    clear hv4 hstep
                    rw [hbit] at hand
                    clear hbit
                    go_wp2_with fail
                    go_roundw
                    case rel => exact ⟨j, p3, X', R3, by omega, by go_num, hm5, hx4, hp3, hb4, hv5⟩
                    case measure => simp [intOf]
                  · rw [hbit] at hand
                    have HBIT := hide hbit
                    clear hbit
                    go_wp2_with fail
                    refine (c_Add' x p3 x p3 m y q k odd r X' R3 X' R3 M Q _ hx4 hx4 hmr4 hyr4 hb4 hb4 wM (by omega)).mono ?_
                    rintro e w5 ⟨X5, rfl, m5, hx5, hb5, hv5⟩
                    have hv6 : Hid (val X5 = (W ^ M.length * 2 ^ (shv lr j)) % val M) := hide (by rw [hv5, dbl_pow hv4.out, hstep.out, HBIT.out])
                    have hm6 : Mod [] w w5 := Mod.trans (U := []) hm5 m5 (by simp) (by simp; omega)
                    clear hv5 hv4 m5 hm5 hx4 hb4
                    go_wp2_with fail
                    go_roundw
                    case rel => exact ⟨j, p3, X5, R3, by omega, by go_num, hm6, hx5, hp3, hb5, hv6⟩
                    case measure => simp [intOf]
                · obtain rfl : j = 0 := by omega
                  have hfin : val X = (W ^ M.length * W ^ M.length) % val M := by
                    rw [hvX.out, shv_zero, HLR.out, W_pow]
                  have HF := hide hfin
                  clear hfin
                  go_wp2_with fail
                  go_ret
                  exact ⟨x, p2, X, R2, rfl, hmr, hxr, g1, hp2, hbX, HF.out⟩

end Go.Proofs.YtkhopfobjijnlaaGreatDoor
namespace Go.Proofs.YtkhopfobjijnlaaGreatDoor
open Go.RowKit

/-- The cells from place o of block b on are these bytes. -/
def CellsB (w : World) (b o : Nat) (B : List Nat) : Prop := ∀ i, i < B.length → w.cell? ⟨b, o + i, none⟩ = some (u8 (nth B i))
theorem CellsB.drewN {w : World} {b o : Nat} {B : List Nat} (h : CellsB w b o B) (n : Nat) : CellsB (w.drewN n) b o B := h
theorem CellsB.drew {w : World} {b o : Nat} {B : List Nat} (h : CellsB w b o B) : CellsB w.drew b o B := h
theorem CellsB.mod {w w' : World} {S : List Nat} {b o : Nat} {B : List Nat} (h : CellsB w b o B) (m : Mod S w w') (hb : b ∉ S) : CellsB w' b o B := by
  intro i hi
  have h1 := h i hi
  have hlt : b < w.heap.size := block_lt_of_cell h1
  rw [← h1]
  exact World.cell?_of_block (w := w) (m.block b hlt hb)
theorem CellsB.lt {w : World} {b o : Nat} {B : List Nat} (h : CellsB w b o B) (hB : 0 < B.length) : b < w.heap.size := block_lt_of_cell (h 0 hB)

/-- A value that is a slice of these bytes: nil or empty where there are none, or the cells lie there. -/
def SliceB (w : World) (v : Value) (B : List Nat) : Prop := (v = .slice none 0 0 ∧ B = []) ∨ (∃ x c, v = .slice (some x) 0 c ∧ B = []) ∨ ∃ b o c, v = sl b o B.length c ∧ B.length ≤ c ∧ CellsB w b o B

/-- The number of the t bytes ahead of place e, the highest first. -/
def bseg (B : List Nat) (e : Nat) : Nat → Nat
  | 0 => 0
  | t + 1 => bseg B e t + 256 ^ t * nth B (e - 1 - t)
/-- The number of bytes, the highest first. -/
def bval (B : List Nat) : Nat := bseg B B.length B.length

theorem bseg_add (B : List Nat) (e s : Nat) : ∀ t, bseg B e (s + t) = bseg B e s + 256 ^ s * bseg B (e - s) t := by
  intro t
  induction t with
  | zero => simp [bseg]
  | succ t ih =>
    rw [← Nat.add_assoc, bseg, ih, bseg, Nat.mul_add, Nat.pow_add, Nat.mul_assoc, show e - 1 - (s + t) = e - s - 1 - t by omega]
    omega
theorem bseg_lt {B : List Nat} (h : Bytes B) (e : Nat) : ∀ t, bseg B e t < 256 ^ t := by
  intro t
  induction t with
  | zero => simp [bseg]
  | succ t ih =>
    simp only [bseg, Nat.pow_succ]
    have := h (e - 1 - t)
    have h2 : 256 ^ t * (nth B (e - 1 - t) + 1) ≤ 256 ^ t * 256 := Nat.mul_le_mul_left _ this
    rw [Nat.mul_add] at h2
    omega
theorem be8_seg (B : List Nat) (o : Nat) : be8 B o = bseg B (o + 8) 8 := by
  simp only [bseg, be8, be4]
  rw [show o + 8 - 1 - 0 = o + 4 + 3 by omega, show o + 8 - 1 - 1 = o + 4 + 2 by omega, show o + 8 - 1 - 2 = o + 4 + 1 by omega, show o + 8 - 1 - 3 = o + 4 by omega,
    show o + 8 - 1 - 4 = o + 3 by omega, show o + 8 - 1 - 5 = o + 2 by omega, show o + 8 - 1 - 6 = o + 1 by omega, show o + 8 - 1 - 7 = o by omega]
  omega

set_option maxRecDepth 100000 in
set_option maxHeartbeats 1000000 in
theorem c_be32' (bb o q n c : Nat) (B : List Nat) (w : World) (hb : CellsB w bb o B) (hB : Bytes B) (hn : 4 ≤ n) (hq : q + n ≤ B.length) :
    Calls Tryz.prog 120 #[sl bb (o + q) n c] w fun e w' => e = .returned (u32 (be4 B q)) ∧ ∃ k, w' = w.drewN k := by
  have h0 := hb q (by omega)
  have h1 := hb (q + 1) (by omega)
  have h2 := hb (q + 2) (by omega)
  have h3 := hb (q + 3) (by omega)
  rw [← Nat.add_assoc] at h1 h2 h3
  have b0 := hB q; have b1 := hB (q + 1); have b2 := hB (q + 2); have b3 := hB (q + 3)
  have hv := hide (congrArg (Value.int .u32) (be4_or (nth B q) (nth B (q + 1)) (nth B (q + 2)) (nth B (q + 3)) b0 b1 b2 b3))
  have g0 : (3 : Int) < (n : Int) := by omega
  have g1 : (2 : Int) < (n : Int) := by omega
  have g2 : (1 : Int) < (n : Int) := by omega
  have g3 : (0 : Int) < (n : Int) := by omega
  clear hn hq
  obtain ⟨p, hp⟩ : ∃ p, p = o + q := ⟨_, rfl⟩
  rw [← hp] at h0 h1 h2 h3 ⊢
  clear hp
  go_enter Tryz.func120, Tryz.ntmps120
  go_wp2
  go_quiet (fail)
  go_wp2
  go_ret
  exact ⟨congrArg Ending.returned hv.out, ⟨_, rfl⟩⟩

set_option maxRecDepth 100000 in
set_option maxHeartbeats 1000000 in
theorem c_be64' (bb o q n c : Nat) (B : List Nat) (w : World) (hb : CellsB w bb o B) (hB : Bytes B) (hn : 8 ≤ n) (hc : n ≤ c) (hq : q + n ≤ B.length) :
    Calls Tryz.prog 119 #[sl bb (o + q) n c] w fun e w' => e = .returned (u64 (be8 B q)) ∧ ∃ k, w' = w.drewN k := by
  have h7 := hb (q + 7) (by omega)
  rw [← Nat.add_assoc] at h7
  have hlo := be4_lt hB q
  have hhi := be4_lt hB (q + 4)
  have hv : Hid (Value.int .u64 (bits .or .u64 (IntKind.u64.wrap (IntKind.u64.wrap (be4 B q : Int) * 4294967296)) (IntKind.u64.wrap (be4 B (q + 4) : Int))) = u64 (be8 B q)) := by
    have := bits_join .u64 64 (by decide) wraps_u64 32 ((be4 B q : Int) * 4294967296) (be4 B (q + 4) : Int) (by omega) (by omega) (by omega) (by omega) (by omega) (by omega)
    refine hide (congrArg (Value.int .u64) ?_)
    rw [u64_wrap_id (be4 B q : Int) (by omega) (by omega), u64_wrap_id ((be4 B q : Int) * 4294967296) (by omega) (by omega), u64_wrap_id (be4 B (q + 4) : Int) (by omega) (by omega), this]
    unfold be8
    omega
  have g7 : (7 : Int) < (n : Int) := by omega
  have g4 : (4 : Int) ≤ (n : Int) := by omega
  have g4c : ¬ c = 4 := by omega
  have c1 := fun k => c_be32' bb o q n c B (w.drewN k) (hb.drewN k) hB (by omega) hq
  have c2 := fun k => c_be32' bb o (q + 4) (n - 4) (c - 4) B (w.drewN k) (hb.drewN k) hB (by omega) (by omega)
  rw [← Nat.add_assoc] at c2
  obtain ⟨p, hp⟩ : ∃ p, p = o + q := ⟨_, rfl⟩
  rw [← hp] at h7 c1 c2 ⊢
  have C1 := hide c1
  have C2 := hide c2
  clear c1 c2 hp
  go_enter Tryz.func119, Tryz.ntmps119
  go_wp2
  refine wp_region_quiet_lit (by kernel_rfl) (by kernel_rfl) ?_
  iterate 6 quiet_step ((go_at_call 120; exact Calls.quiet_of (C1.out _)))
  repeat quiet_step ((go_at_call 120; exact Calls.quiet_of (C2.out _)))
  refine wpQuiet_nil ?_
  intro _ hw'
  obtain ⟨nq, hw''⟩ := hw'
  subst hw''
  go_wp2
  go_ret
  exact ⟨congrArg Ending.returned hv.out, ⟨_, rfl⟩⟩

set_option maxRecDepth 100000 in
theorem c_beUint' (bb o q n c : Nat) (B : List Nat) (w : World) (hb : CellsB w bb o B) (hB : Bytes B) (hn : 8 ≤ n) (hc : n ≤ c) (hq : q + n ≤ B.length) :
    Calls Tryz.prog 110 #[sl bb (o + q) n c] w fun e w' => e = .returned (u64 (be8 B q)) ∧ ∃ k, w' = w.drewN k := by
  have C := hide (c_be64' bb o q n c B w hb hB hn hc hq)
  go_enter Tryz.func110, Tryz.ntmps110
  go_wp2_with fail
  refine C.out.mono ?_; rintro e w' ⟨rfl, k, rfl⟩
  go_wp2_with fail
  go_ret
  exact ⟨rfl, k, rfl⟩

theorem val_set {V : List Nat} {k v : Nat} (h : k < V.length) : val (V.set k v) + W ^ k * nth V k = val V + W ^ k * v := by
  have e1 := val_split V (k + 1) (by omega)
  have e2 := val_split (V.set k v) (k + 1) (by simp; omega)
  rw [val_take_succ h] at e1
  rw [take_succ_set h, List.drop_set_of_lt (by omega)] at e2
  omega

set_option maxRecDepth 100000 in
theorem c_errNew (s : ByteArray) (w : World) : Calls Tryz.prog 82 #[.string s] w fun e w' => ∃ p, e = .returned (.iface 149 (ptr p)) ∧ Mod [] w w' := by
  go_enter Tryz.func82, Tryz.ntmps82
  go_wp2
  go_ret
  exact ⟨_, rfl, (Mod.refl [] w).alloc _⟩

end Go.Proofs.YtkhopfobjijnlaaGreatDoor
