/- Contracts of bigmod's assign and addMulVVW. -/
import Derived.Test.YtgejcabgcemllaaNatE
import Derived.Test.YtgejcabgcemllaaWordsC
namespace Go.Proofs.Ytgejcabgcemllaa
open Go.RowKit

theorem xor_nat {a b : Nat} (ha : a < W) (hb : b < W) : bits .xor .u64 (a : Int) (b : Int) = ((a ^^^ b : Nat) : Int) := by
  rw [W_eq] at *
  have hx : a ^^^ b < 2 ^ 64 := Nat.xor_lt_two_pow (by simpa using ha) (by simpa using hb)
  simp only [bits, BitVec.ofInt_natCast, BitVec.toNat_xor, BitVec.toNat_ofNat]
  have ea : a % 2 ^ IntKind.u64.bits = a := Nat.mod_eq_of_lt (by simpa [IntKind.bits] using ha)
  have eb : b % 2 ^ IntKind.u64.bits = b := Nat.mod_eq_of_lt (by simpa [IntKind.bits] using hb)
  rw [ea, eb]
  have := wrapW (a ^^^ b)
  rw [W_eq, Nat.mod_eq_of_lt (by simpa using hx)] at this
  exact this

/-- x xor (mask and (x xor y)): one of the two. -/
theorem mask_word {on x y : Nat} (hon : on ≤ 1) (hx : x < W) (hy : y < W) :
    bits .xor .u64 (x : Int) (bits .and .u64 ((maskB on : Nat) : Int) (bits .xor .u64 (x : Int) (y : Int))) = (((if on = 0 then x else y) : Nat) : Int) := by
  rw [xor_nat hx hy]
  have hxy : x ^^^ y < W := by
    rw [W_two] at *
    exact Nat.xor_lt_two_pow hx hy
  have h01 : on = 0 ∨ on = 1 := by omega
  rcases h01 with rfl | rfl
  · have h := bits_and_u64_nat (maskB 0) (x ^^^ y) (by decide) (by rw [W_eq] at hxy; exact hxy)
    rw [h, show maskB 0 = 0 from rfl, Nat.zero_and, xor_nat hx W_pos, Nat.xor_zero]
    rfl
  · have h := bits_and_u64_nat (maskB 1) (x ^^^ y) (by decide +kernel) (by rw [W_eq] at hxy; exact hxy)
    have e : maskB 1 &&& (x ^^^ y) = x ^^^ y := by
      rw [show maskB 1 = 2 ^ 64 - 1 from rfl, Nat.and_comm, Nat.and_two_pow_sub_one_eq_mod, ← W_two, Nat.mod_eq_of_lt hxy]
    rw [h, e, xor_nat hx hxy, ← Nat.xor_assoc, Nat.xor_self, Nat.zero_xor]
    rfl

/-- One of two rows. -/
def selW (on : Nat) (X Y : List Nat) : List Nat := if on = 0 then X else Y

set_option maxRecDepth 100000 in
set_option maxHeartbeats 1600000 in
theorem c_assign (x y px py on : Nat) (Lx Rx Ly Ry : List Nat) (w : World) (hx : NatIs w x px Lx Rx) (hy : NatIs w y py Ly Ry) (hlen : Ly.length = Lx.length) (wx : Words Lx) (wy : Words Ly) (hon : on ≤ 1) :
    Calls Try.prog 79 #[ptr x, u64 on, ptr y] w fun e w' =>
      e = .returned (ptr x) ∧ Mod [px] w w' ∧ NatIs w' x px (selW on Lx Ly) Rx := by
  have hcx := hx.cell
  have hcy := hy.cell
  have hcap := hx.cap
  have hcapy := hy.cap
  rw [hlen] at hcy
  have H1 := hide hlen
  have hle : Lx.length ≤ Lx.length + Ry.length := by omega
  have hsel : Hid (selL on Lx Ly Lx.length = selW on Lx Ly) := hide (selL_whole on hlen)
  clear hlen
  go_enter Try.func79, Try.ntmps79
  go_wp2_with fail
  refine (c_ctMask on hon _).mono ?_; rintro e w' ⟨rfl, rfl⟩
  go_wp2_with fail
  go_loopw [11] (fun i wr => ∃ k : Nat, k ≤ Lx.length ∧ i = i64 k ∧ Mod [px] w wr ∧ Blk wr px 62 ((selL on Lx Ly k ++ Rx).map u64)) (fun i _ => Lx.length - (intOf i).toNat)
  case atStart => exact ⟨0, Nat.zero_le _, rfl, Mod.refl _ _, hx.row⟩
  case round =>
    obtain ⟨k, hk, rfl, hm, hr⟩ := hrel
    by_cases hlt : k < Lx.length
    · have h1 : wr.cell? ⟨px, k, none⟩ = some (u64 (nth Lx k)) := by
        rw [hr.at k (by simp [selL_length]; omega), nth_append_left (by rw [selL_length]; exact hlt), selL_at _ _ _ (Nat.le_refl _)]
      have h2 := read_other hx hy hm hr (selL_length _ _ _ _) (selL_at _ _ _ (Nat.le_refl _)) hlt (by rw [H1.out]; exact hlt)
      have h3 := hr.frozen k
      have hmk := mask_word hon (wx.nth k) (wy.nth k)
      generalize hv : (if on = 0 then nth Lx k else nth Ly k) = v at hmk
      have hm2 : Mod [px] w (wr.setCell ⟨px, k, none⟩ (u64 v)).drew := (hm.setCell _ _ (by simp)).drew
      have hr2 : Blk (wr.setCell ⟨px, k, none⟩ (u64 v)).drew px 62 ((selL on Lx Ly (k + 1) ++ Rx).map u64) := by
        simp only [selL]
        rw [hv]
        exact row_set hr (by rw [selL_length]; exact hlt)
      clear hm hr hv
      go_wp2_with fail
      go_region_with (fail)
      all_goals go_wp2_with fail
      all_goals go_roundw
      all_goals first
        | exact ⟨k + 1, by omega, by go_num, hm2, hr2⟩
        | (simp [intOf]; omega)
    · obtain rfl : k = Lx.length := by omega
      have hfin := hx.done hm hr (selL_length _ _ _ _)
      rw [hsel.out] at hfin
      go_wp2_with fail
      go_ret
      exact ⟨rfl, hm, hfin⟩

set_option maxRecDepth 100000 in
set_option maxHeartbeats 1600000 in
theorem c_addMulVVW (bz oz n cz bx ox nx cx y : Nat) (Z X : List Nat) (w : World) (hz : Blk w bz 62 (Z.map u64)) (hx : Blk w bx 62 (X.map u64)) (hne : bx ≠ bz) (hn : 0 < n) (hnx : n ≤ nx)
    (hoz : oz + n ≤ Z.length) (hox : ox + nx ≤ X.length) (wZ : Words Z) (wX : ∀ j, j < n → nth X (ox + j) < W) (hy : y < W) (hbig : n ≤ 100000) :
    Calls Try.prog 74 #[sl bz oz n cz, sl bx ox nx cx, u64 y] w fun e w' =>
      e = .returned (u64 (mulC Z X oz ox y n)) ∧ Mod [bz] w w' ∧ Blk w' bz 62 ((mulL Z X oz ox y n).map u64) := by
  have hx0 := hx.at (ox + (n - 1)) (by omega)
  have e1 : Hid ((n : Int) - 1 = ((n - 1 : Nat) : Int)) := hide (by omega)
  have g1 : (((n - 1 : Nat) : Int)) < (nx : Int) := by omega
  have hHy := hide hy
  have WX := hide wX
  clear hy wX
  go_enter Try.func74, Try.ntmps74
  go_wp2_with fail
  go_loopw [6, 19] (fun c i wr => ∃ k : Nat, k ≤ n ∧ i = i64 k ∧ c = u64 (mulC Z X oz ox y k) ∧ Mod [bz] w wr ∧ Blk wr bz 62 ((mulL Z X oz ox y k).map u64)) (fun _ i _ => n - (intOf i).toNat)
  case atStart => exact ⟨0, Nat.zero_le _, rfl, rfl, Mod.refl _ _, hz⟩
  case round =>
    obtain ⟨k, hk, rfl, rfl, hm, hr⟩ := hrel
    by_cases hlt : k < n
    · have hzc : wr.cell? ⟨bz, oz + k, none⟩ = some (u64 (nth Z (oz + k))) := by
        rw [hr.at (oz + k) (by rw [mulL_length]; omega), mulL_at _ _ _ _ _ (Nat.le_refl _)]
      have hxc : wr.cell? ⟨bx, ox + k, none⟩ = some (u64 (nth X (ox + k))) := (hx.mod hm (by simpa using hne)).at (ox + k) (by omega)
      have hzf := hr.frozen (oz + k)
      have hc := mulC_lt Z X oz ox y k
      have b1 := addHi_le (c := 0) (mulLo_lt (nth X (ox + k)) y) (wZ.nth (oz + k)) (by omega)
      have b2 := addHi_le (c := 0) (addLo_lt (mulLo (nth X (ox + k)) y) (nth Z (oz + k)) 0) hc (by omega)
      have hs : Hid (stepHi (nth X (ox + k)) y (nth Z (oz + k)) (mulC Z X oz ox y k) = mulC Z X oz ox y (k + 1)) := hide rfl
      have hlo : Hid (addLo (addLo (mulLo (nth X (ox + k)) y) (nth Z (oz + k)) 0) (mulC Z X oz ox y k) 0 = stepLo (nth X (ox + k)) y (nth Z (oz + k)) (mulC Z X oz ox y k)) := hide rfl
      have hhi : Hid (addLo (addLo (mulHi (nth X (ox + k)) y) 0 (addHi (mulLo (nth X (ox + k)) y) (nth Z (oz + k)) 0)) 0 (addHi (addLo (mulLo (nth X (ox + k)) y) (nth Z (oz + k)) 0) (mulC Z X oz ox y k) 0) = mulC Z X oz ox y (k + 1)) := hide rfl
      have hm2 : Mod [bz] w (wr.setCell ⟨bz, oz + k, none⟩ (u64 (stepLo (nth X (ox + k)) y (nth Z (oz + k)) (mulC Z X oz ox y k)))) := hm.setCell _ _ (by simp)
      have hr2 : Blk (wr.setCell ⟨bz, oz + k, none⟩ (u64 (stepLo (nth X (ox + k)) y (nth Z (oz + k)) (mulC Z X oz ox y k)))) bz 62 ((mulL Z X oz ox y (k + 1)).map u64) := hr.set _ _
      have wXk := hide (WX.out k hlt)
      clear hm hr hc
      go_wp2_with fail
      refine (c_Mul (nth X (ox + k)) y wXk.out hHy.out _).mono ?_; rintro e w' ⟨rfl, rfl⟩
      go_wp2_with fail
      refine (c_Add (mulLo (nth X (ox + k)) y) (nth Z (oz + k)) 0 (by omega) _).mono ?_; rintro e w' ⟨rfl, rfl⟩
      go_wp2_with fail
      refine (c_Add (mulHi (nth X (ox + k)) y) 0 _ b1 _).mono ?_; rintro e w' ⟨rfl, rfl⟩
      go_wp2_with fail
      refine (c_Add _ (mulC Z X oz ox y k) 0 (by omega) _).mono ?_; rintro e w' ⟨rfl, rfl⟩
      go_wp2_with fail
      refine (c_Add _ 0 _ b2 _).mono ?_; rintro e w' ⟨rfl, rfl⟩
      rw [hhi.out, hlo.out]
      go_wp2_with fail
      go_roundw
      case rel => exact ⟨k + 1, by omega, by go_num, rfl, hm2, hr2⟩
      case measure => simp [intOf]; omega
    · obtain rfl : k = n := by omega
      go_wp2_with fail
      go_ret
      exact ⟨rfl, hm, hr⟩

end Go.Proofs.Ytgejcabgcemllaa
