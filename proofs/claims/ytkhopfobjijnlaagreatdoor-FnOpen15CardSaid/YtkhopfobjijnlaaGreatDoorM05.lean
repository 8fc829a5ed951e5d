/- Contracts of bigmod's assign and addMulVVW. Contracts of bigmod's maybeSubtractModulus and Add. Montgomery multiplication, word by word, as a plain function on rows, and what it comes to: a * b / R modulo m. The word k is the one for which k times the modulus' first word is -1. -/
import Derived.Test.YtkhopfobjijnlaaGreatDoorM04
set_option linter.all false
namespace Go.Proofs.YtkhopfobjijnlaaGreatDoor
open Go.RowKit

theorem xor_nat {a b : Nat} (ha : a < W) (hb : b < W) : bits .xor .u64 (a : Int) (b : Int) = ((a ^^^ b : Nat) : Int) := by
  rw [W_eq] at *
  have hx : a ^^^ b < 2 ^ 64 := Nat.xor_lt_two_pow (by simpa using ha) (by simpa using hb)
  simp only [bits, BitVec.ofInt_natCast, BitVec.toNat_xor, BitVec.toNat_ofNat]
  have ea : a % 2 ^ IntKind.u64.bits = a := Nat.mod_eq_of_lt (by simpa [IntKind.bits] using ha)
  have eb : b % 2 ^ IntKind.u64.bits = b := Nat.mod_eq_of_lt (by simpa [IntKind.bits] using hb)
  rw [ea, eb]
  have := wrapW (a ^^^ b)
  rw [W_eq, Nat.mod_eq_of_lt (by simpa using hx)] at this
  exact this

/-- x xor (mask and (x xor y)): one of the two. -/
theorem mask_word {on x y : Nat} (hon : on ≤ 1) (hx : x < W) (hy : y < W) :
    bits .xor .u64 (x : Int) (bits .and .u64 ((maskB on : Nat) : Int) (bits .xor .u64 (x : Int) (y : Int))) = (((if on = 0 then x else y) : Nat) : Int) := by
  rw [xor_nat hx hy]
  have hxy : x ^^^ y < W := by
    rw [W_two] at *
    exact Nat.xor_lt_two_pow hx hy
  have h01 : on = 0 ∨ on = 1 := by omega
  rcases h01 with rfl | rfl
  · have h := bits_and_u64_nat (maskB 0) (x ^^^ y) (by decide) (by rw [W_eq] at hxy; exact hxy)
    rw [h, show maskB 0 = 0 from rfl, Nat.zero_and, xor_nat hx W_pos, Nat.xor_zero]
    rfl
  · have h := bits_and_u64_nat (maskB 1) (x ^^^ y) (by decide +kernel) (by rw [W_eq] at hxy; exact hxy)
    have e : maskB 1 &&& (x ^^^ y) = x ^^^ y := by
      rw [show maskB 1 = 2 ^ 64 - 1 from rfl, Nat.and_comm, Nat.and_two_pow_sub_one_eq_mod, ← W_two, Nat.mod_eq_of_lt hxy]
    rw [h, e, xor_nat hx hxy, ← Nat.xor_assoc, Nat.xor_self, Nat.zero_xor]
    rfl

/-- One of two rows. -/
def selW (on : Nat) (X Y : List Nat) : List Nat := if on = 0 then X else Y

set_option maxRecDepth 100000 in
set_option maxHeartbeats 1600000 in
theorem c_assign (x y px py on : Nat) (Lx Rx Ly Ry : List Nat) (w : World) (hx : NatIs w x px Lx Rx) (hy : NatIs w y py Ly Ry) (hlen : Ly.length = Lx.length) (wx : Words Lx) (wy : Words Ly) (hon : on ≤ 1) :
    Calls Tryz.prog 90 #[ptr x, u64 on, ptr y] w fun e w' =>
      e = .returned (ptr x) ∧ Mod [px] w w' ∧ NatIs w' x px (selW on Lx Ly) Rx := by
  have hcx := hx.cell
  have hcy := hy.cell
  have hcap := hx.cap
  have hcapy := hy.cap
  rw [hlen] at hcy
  have H1 := hide hlen
  have hle : Lx.length ≤ Lx.length + Ry.length := by omega
  have hsel : Hid (selL on Lx Ly Lx.length = selW on Lx Ly) := hide (selL_whole on hlen)
  clear hlen
  go_enter Tryz.func90, Tryz.ntmps90
  go_wp2_with fail
  refine (c_ctMask on hon _).mono ?_; rintro e w' ⟨rfl, rfl⟩
  go_wp2_with fail
  go_loopw [11] (fun i wr => ∃ k : Nat, k ≤ Lx.length ∧ i = i64 k ∧ Mod [px] w wr ∧ Blk wr px 98 ((selL on Lx Ly k ++ Rx).map u64)) (fun i _ => Lx.length - (intOf i).toNat)
  case atStart => exact ⟨0, Nat.zero_le _, rfl, Mod.refl _ _, hx.row⟩
  case round =>
    obtain ⟨k, hk, rfl, hm, hr⟩ := hrel
    by_cases hlt : k < Lx.length
    · have h1 : wr.cell? ⟨px, k, none⟩ = some (u64 (nth Lx k)) := by
        rw [hr.at k (by simp [selL_length]; omega), nth_append_left (by rw [selL_length]; exact hlt), selL_at _ _ _ (Nat.le_refl _)]
      have h2 := read_other hx hy hm hr (selL_length _ _ _ _) (selL_at _ _ _ (Nat.le_refl _)) hlt (by rw [H1.out]; exact hlt)
      have h3 := hr.frozen k
      have hmk := mask_word hon (wx.nth k) (wy.nth k)
      generalize hv : (if on = 0 then nth Lx k else nth Ly k) = v at hmk
      have hm2 : Mod [px] w (wr.setCell ⟨px, k, none⟩ (u64 v)).drew := (hm.setCell _ _ (by simp)).drew
      have hr2 : Blk (wr.setCell ⟨px, k, none⟩ (u64 v)).drew px 98 ((selL on Lx Ly (k + 1) ++ Rx).map u64) := by
        simp only [selL]
        rw [hv]
        exact row_set hr (by rw [selL_length]; exact hlt)
      clear hm hr hv
      go_wp2_with fail
      go_region_with (fail)
      all_goals go_wp2_with fail
      all_goals go_roundw
      all_goals first
        | exact ⟨k + 1, by omega, by go_num, hm2, hr2⟩
        | (simp [intOf]; omega)
    · obtain rfl : k = Lx.length := by omega
      have hfin := hx.done hm hr (selL_length _ _ _ _)
      rw [hsel.out] at hfin
      go_wp2_with fail
      go_ret
      exact ⟨rfl, hm, hfin⟩

set_option maxRecDepth 100000 in
set_option maxHeartbeats 1600000 in
theorem c_addMulVVW (bz oz n cz bx ox nx cx y : Nat) (Z X : List Nat) (w : World) (hz : Blk w bz 98 (Z.map u64)) (hx : Blk w bx 98 (X.map u64)) (hne : bx ≠ bz) (hn : 0 < n) (hnx : n ≤ nx)
    (hoz : oz + n ≤ Z.length) (hox : ox + nx ≤ X.length) (wZ : Words Z) (wX : ∀ j, j < n → nth X (ox + j) < W) (hy : y < W) (hbig : n ≤ 100000) :
    Calls Tryz.prog 98 #[sl bz oz n cz, sl bx ox nx cx, u64 y] w fun e w' =>
      e = .returned (u64 (mulC Z X oz ox y n)) ∧ Mod [bz] w w' ∧ Blk w' bz 98 ((mulL Z X oz ox y n).map u64) := by
  have hx0 := hx.at (ox + (n - 1)) (by omega)
  have e1 : Hid ((n : Int) - 1 = ((n - 1 : Nat) : Int)) := hide (by omega)
  have g1 : (((n - 1 : Nat) : Int)) < (nx : Int) := by omega
  have hHy := hide hy
  have WX := hide wX
  clear hy wX
  go_enter Tryz.func98, Tryz.ntmps98
  go_wp2_with fail
  go_loopw [6, 19] (fun c i wr => ∃ k : Nat, k ≤ n ∧ i = i64 k ∧ c = u64 (mulC Z X oz ox y k) ∧ Mod [bz] w wr ∧ Blk wr bz 98 ((mulL Z X oz ox y k).map u64)) (fun _ i _ => n - (intOf i).toNat)
  case atStart => exact ⟨0, Nat.zero_le _, rfl, rfl, Mod.refl _ _, hz⟩
  case round =>
    obtain ⟨k, hk, rfl, rfl, hm, hr⟩ := hrel
    by_cases hlt : k < n
    · have hzc : wr.cell? ⟨bz, oz + k, none⟩ = some (u64 (nth Z (oz + k))) := by
        rw [hr.at (oz + k) (by rw [mulL_length]; omega), mulL_at _ _ _ _ _ (Nat.le_refl _)]
      have hxc : wr.cell? ⟨bx, ox + k, none⟩ = some (u64 (nth X (ox + k))) := (hx.mod hm (by simpa using hne)).at (ox + k) (by omega)
      have hzf := hr.frozen (oz + k)
      have hc := mulC_lt Z X oz ox y k
      have b1 := addHi_le (c := 0) (mulLo_lt (nth X (ox + k)) y) (wZ.nth (oz + k)) (by omega)
      have b2 := addHi_le (c := 0) (addLo_lt (mulLo (nth X (ox + k)) y) (nth Z (oz + k)) 0) hc (by omega)
      have hs : Hid (stepHi (nth X (ox + k)) y (nth Z (oz + k)) (mulC Z X oz ox y k) = mulC Z X oz ox y (k + 1)) := hide rfl
      have hlo : Hid (addLo (addLo (mulLo (nth X (ox + k)) y) (nth Z (oz + k)) 0) (mulC Z X oz ox y k) 0 = stepLo (nth X (ox + k)) y (nth Z (oz + k)) (mulC Z X oz ox y k)) := hide rfl
      have hhi : Hid (addLo (addLo (mulHi (nth X (ox + k)) y) 0 (addHi (mulLo (nth X (ox + k)) y) (nth Z (oz + k)) 0)) 0 (addHi (addLo (mulLo (nth X (ox + k)) y) (nth Z (oz + k)) 0) (mulC Z X oz ox y k) 0) = mulC Z X oz ox y (k + 1)) := hide rfl
      have hm2 : Mod [bz] w (wr.setCell ⟨bz, oz + k, none⟩ (u64 (stepLo (nth X (ox + k)) y (nth Z (oz + k)) (mulC Z X oz ox y k)))) := hm.setCell _ _ (by simp)
      have hr2 : Blk (wr.setCell ⟨bz, oz + k, none⟩ (u64 (stepLo (nth X (ox + k)) y (nth Z (oz + k)) (mulC Z X oz ox y k)))) bz 98 ((mulL Z X oz ox y (k + 1)).map u64) := hr.set _ _
      have wXk := hide (WX.out k hlt)
      clear hm hr hc
      go_wp2_with fail
      refine (c_Mul (nth X (ox + k)) y wXk.out hHy.out _).mono ?_; rintro e w' ⟨rfl, rfl⟩
      go_wp2_with fail
      refine (c_Add (mulLo (nth X (ox + k)) y) (nth Z (oz + k)) 0 (by omega) _).mono ?_; rintro e w' ⟨rfl, rfl⟩
      go_wp2_with fail
      refine (c_Add (mulHi (nth X (ox + k)) y) 0 _ b1 _).mono ?_; rintro e w' ⟨rfl, rfl⟩
      go_wp2_with fail
      refine (c_Add _ (mulC Z X oz ox y k) 0 (by omega) _).mono ?_; rintro e w' ⟨rfl, rfl⟩
      go_wp2_with fail
      refine (c_Add _ 0 _ b2 _).mono ?_; rintro e w' ⟨rfl, rfl⟩
      rw [hhi.out, hlo.out]
      go_wp2_with fail
      go_roundw
      case rel => exact ⟨k + 1, by omega, by go_num, rfl, hm2, hr2⟩
      case measure => simp [intOf]; omega
    · obtain rfl : k = n := by omega
      go_wp2_with fail
      go_ret
      exact ⟨rfl, hm, hr⟩

end Go.Proofs.YtkhopfobjijnlaaGreatDoor
namespace Go.Proofs.YtkhopfobjijnlaaGreatDoor
open Go.RowKit

theorem c_set' (x p y q : Nat) (L R M Q : List Nat) (w : World) (h : NatIs w x p L R) (hy : NatIs w y q M Q) (h1 : y ≠ x) (h4 : q ≠ p) :
    Calls Tryz.prog 87 #[ptr x, ptr y] w fun e w' =>
      ∃ p' R', e = .returned (ptr x) ∧ Mod [x, p] w w' ∧ NatIs w' x p' M R' ∧ Kept w p p' :=
  c_set x p y q L R M Q w h hy h1 (hy.head.ne h.row (by decide)) (hy.row.ne h.head (by decide)) h4

theorem Kept.ge {w : World} {p p' n : Nat} (h : Kept w p p') (hp : n ≤ p) (hn : n ≤ w.heap.size) : n ≤ p' := by
  rcases h with h | h
  · rw [h]; exact hp
  · omega

/-- Words below a modulus: what a modulus' operations work on. -/
structure Below' (L M : List Nat) : Prop where
  len : L.length = M.length
  words : Words L
  lt : val L < val M

theorem subtract_row {X M : List Nat} {c : Nat} (hX : Words X) (hM : Words M) (hl : M.length = X.length) (hc : c ≤ 1) (hb : val X + W ^ X.length * c < 2 * val M) :
    Below' (selW (max (notB (subC X M X.length)) c) X (subL X M X.length)) M ∧
      val (selW (max (notB (subC X M X.length)) c) X (subL X M X.length)) = (val X + W ^ X.length * c) % val M := by
  have hs := subC_whole hX hM hl
  have he := sub_whole hX hM hl
  have hlt := val_lt hX
  have hMl := val_lt hM
  rw [hl] at hMl
  have h01 : c = 0 ∨ c = 1 := by omega
  rcases h01 with rfl | rfl
  · rw [Nat.mul_zero, Nat.add_zero] at hb ⊢
    by_cases h : val X < val M
    · rw [if_pos h] at hs
      rw [hs, show selW (max (notB 1) 0) X (subL X M X.length) = X from rfl, Nat.mod_eq_of_lt h]
      exact ⟨⟨hl.symm, hX, h⟩, rfl⟩
    · rw [if_neg h] at hs
      rw [hs] at he ⊢
      rw [show selW (max (notB 0) 0) X (subL X M X.length) = subL X M X.length from rfl]
      have hv : val (subL X M X.length) = val X - val M := by omega
      refine ⟨⟨by rw [subL_length]; exact hl.symm, subL_words hX _, by omega⟩, ?_⟩
      rw [hv, Nat.mod_eq_sub_mod (by omega), Nat.mod_eq_of_lt (by omega)]
  · rw [Nat.mul_one] at hb ⊢
    have hXM : val X < val M := by omega
    rw [if_pos hXM] at hs
    rw [hs] at he ⊢
    rw [show selW (max (notB 1) 1) X (subL X M X.length) = subL X M X.length from rfl]
    have hv : val (subL X M X.length) = val X + W ^ X.length - val M := by omega
    refine ⟨⟨by rw [subL_length]; exact hl.symm, subL_words hX _, by omega⟩, ?_⟩
    rw [hv, Nat.mod_eq_sub_mod (by omega), Nat.mod_eq_of_lt (by omega)]

set_option maxRecDepth 100000 in
set_option maxHeartbeats 1600000 in
theorem c_maybeSub (x px m y q k c : Nat) (odd : Bool) (r : Value) (L R M Q : List Nat) (w : World) (hx : NatIs w x px L R) (hm : MHead w m y odd k r) (hy : NatIs w y q M Q)
    (wL : Words L) (wM : Words M) (hl : M.length = L.length) (hc : c ≤ 1) (hb : val L + W ^ L.length * c < 2 * val M) :
    Calls Tryz.prog 100 #[ptr x, u64 c, ptr m] w fun e w' =>
      ∃ L', e = .returned (.tuple #[]) ∧ Mod [px] w w' ∧ NatIs w' x px L' R ∧ Below' L' M ∧ val L' = (val L + W ^ L.length * c) % val M := by
  have hres := hide (subtract_row wL wM hl hc hb)
  have hxlt := hx.xlt; have hplt := hx.plt; have hylt := hy.xlt; have hqlt := hy.plt; have hmlt := hm.lt
  clear hb
  go_enter Tryz.func100, Tryz.ntmps100
  go_wp2_with fail
  refine (c_NewNat _).mono ?_
  rintro e w1 ⟨t, pt, rfl, m1, ht1, g1, g2⟩
  have hx1 := hx.mod m1 (by simp) (by simp)
  go_wp2_with fail
  refine (c_set' t pt x px [] _ L R _ ht1 hx1 (by omega) (by omega)).mono ?_
  rintro e w2 ⟨pt2, Rt, rfl, m2, ht2, k2⟩
  have m12 : Mod [] w w2 := Mod.trans (U := []) m1 m2 (by simp) (by simp; omega)
  have hpt2 : w.heap.size ≤ pt2 := k2.ge g2 m1.size
  have hx2 := hx.mod m12 (by simp) (by simp)
  have hm2 : MHead w2 m y odd k r := Blk.mod hm m12 (by simp)
  have hy2 := hy.mod m12 (by simp) (by simp)
  have hc2 := hm2.c0
  go_wp2_with fail
  refine (c_sub t y pt2 q L Rt M Q _ ht2 hy2 hl).mono ?_
  rintro e w3 ⟨rfl, m3, ht3⟩
  have m13 : Mod [] w w3 := Mod.trans (U := []) m12 m3 (by simp) (by simp; omega)
  have hx3 := hx.mod m13 (by simp) (by simp)
  have hb3 := subC_le L M L.length
  have hor := or_bit (notB_le (subC L M L.length)) hc
  have hle : max (notB (subC L M L.length)) c ≤ 1 := by have := notB_le (subC L M L.length); omega
  go_wp2_with fail
  refine (c_not _ hb3 _).mono ?_
  rintro e w' ⟨rfl, rfl⟩
  go_wp2_with fail
  refine (c_assign x t px pt2 _ L R _ Rt _ hx3 ht3 (subL_length _ _ _) wL (subL_words wL _) hle).mono ?_
  rintro e w4 ⟨rfl, m4, hx4⟩
  have m14 : Mod [px] w w4 := Mod.trans (U := [px]) m13 m4 (by simp) (by simp)
  go_wp2_with fail
  go_end0
  exact ⟨_, rfl, m14, hx4, hres.out⟩

set_option maxRecDepth 100000 in
set_option maxHeartbeats 1600000 in
theorem c_Add' (x px z pz m y q k : Nat) (odd : Bool) (r : Value) (L R V S M Q : List Nat) (w : World) (hx : NatIs w x px L R) (hz : NatIs w z pz V S) (hm : MHead w m y odd k r) (hy : NatIs w y q M Q)
    (bL : Below' L M) (bV : Below' V M) (wM : Words M) (hq : q ≠ px) :
    Calls Tryz.prog 66 #[ptr x, ptr z, ptr m] w fun e w' =>
      ∃ L', e = .returned (ptr x) ∧ Mod [px] w w' ∧ NatIs w' x px L' R ∧ Below' L' M ∧ val L' = (val L + val V) % val M := by
  have hlen : V.length = L.length := bV.len.trans bL.len.symm
  have hsum := add_whole hlen
  have hb1 := bL.lt
  have hb2 := bV.lt
  have hlen2 := addL_length L V L.length
  have hcl := addC_le bL.words bV.words L.length
  have hbound : val (addL L V L.length) + W ^ (addL L V L.length).length * addC L V L.length < 2 * val M := by rw [hlen2]; omega
  have hsum' : val (addL L V L.length) + W ^ (addL L V L.length).length * addC L V L.length = val L + val V := by rw [hlen2]; exact hsum
  have H := hide hsum'
  have HB := hide hbound
  have HL := hide (show M.length = (addL L V L.length).length by rw [hlen2]; exact bL.len.symm)
  have hmp : m ≠ px := Blk.ne hm hx.row (by decide)
  have hyp : y ≠ px := hy.head.ne hx.row (by decide)
  clear hsum hbound hsum'
  go_enter Tryz.func66, Tryz.ntmps66
  go_wp2_with fail
  refine (c_add x z px pz L R V S _ hx hz hlen bL.words bV.words).mono ?_
  rintro e w1 ⟨rfl, m1, hx1⟩
  have hm1 : MHead w1 m y odd k r := Blk.mod hm m1 (by simpa using hmp)
  have hy1 := hy.mod m1 (by simpa using hyp) (by simpa using hq)
  go_wp2_with fail
  refine (c_maybeSub x px m y q k _ odd r _ R M Q _ hx1 hm1 hy1 (addL_words bL.words _) wM HL.out hcl HB.out).mono ?_
  rintro e w2 ⟨L', rfl, m2, hx2, hbe, hv⟩
  rw [H.out] at hv
  have HV := hide hv
  have m12 : Mod [px] w w2 := Mod.trans (U := [px]) m1 m2 (by simp) (by simp)
  clear hv
  go_wp2_with fail
  go_ret
  exact ⟨L', rfl, m12, hx2, hbe, HV.out⟩

end Go.Proofs.YtkhopfobjijnlaaGreatDoor
namespace Go.Proofs.YtkhopfobjijnlaaGreatDoor

/-- The row and the carry behind i rounds, of the row Z at first. -/
def mT (Z A B M : List Nat) (k n : Nat) : Nat → List Nat × Nat
  | 0 => (Z, 0)
  | i + 1 =>
    let T := (mT Z A B M k n i).1
    let T1 := mulL T A i 0 (nth B i) n
    let c1 := mulC T A i 0 (nth B i) n
    let Y := nth T1 i * k % W
    ((mulL T1 M i 0 Y n).set (n + i) (addLo c1 (mulC T1 M i 0 Y n) (mT Z A B M k n i).2), addHi c1 (mulC T1 M i 0 Y n) (mT Z A B M k n i).2)

/-- The pieces of a round by name. -/
def mRow (Z A B M : List Nat) (k n i : Nat) : List Nat := (mT Z A B M k n i).1
def mCar (Z A B M : List Nat) (k n i : Nat) : Nat := (mT Z A B M k n i).2
def mRow1 (Z A B M : List Nat) (k n i : Nat) : List Nat := mulL (mRow Z A B M k n i) A i 0 (nth B i) n
def mCar1 (Z A B M : List Nat) (k n i : Nat) : Nat := mulC (mRow Z A B M k n i) A i 0 (nth B i) n
def mY (Z A B M : List Nat) (k n i : Nat) : Nat := nth (mRow1 Z A B M k n i) i * k % W
def mRow2 (Z A B M : List Nat) (k n i : Nat) : List Nat := mulL (mRow1 Z A B M k n i) M i 0 (mY Z A B M k n i) n
def mCar2 (Z A B M : List Nat) (k n i : Nat) : Nat := mulC (mRow1 Z A B M k n i) M i 0 (mY Z A B M k n i) n

theorem mRow_zero (Z A B M : List Nat) (k n : Nat) : mRow Z A B M k n 0 = Z := rfl
theorem mCar_zero (Z A B M : List Nat) (k n : Nat) : mCar Z A B M k n 0 = 0 := rfl
theorem mRow_succ (Z A B M : List Nat) (k n i : Nat) : mRow Z A B M k n (i + 1) = (mRow2 Z A B M k n i).set (n + i) (addLo (mCar1 Z A B M k n i) (mCar2 Z A B M k n i) (mCar Z A B M k n i)) := rfl
theorem mCar_succ (Z A B M : List Nat) (k n i : Nat) : mCar Z A B M k n (i + 1) = addHi (mCar1 Z A B M k n i) (mCar2 Z A B M k n i) (mCar Z A B M k n i) := rfl

section
variable {Z A B M : List Nat} {k n : Nat}
theorem mRow_length (i : Nat) : (mRow Z A B M k n i).length = Z.length := by
  induction i with
  | zero => rfl
  | succ i ih => rw [mRow_succ]; simp only [List.length_set, mRow2, mRow1, mulL_length]; exact ih
theorem mRow1_length (i : Nat) : (mRow1 Z A B M k n i).length = Z.length := by rw [mRow1, mulL_length, mRow_length]
theorem mRow2_length (i : Nat) : (mRow2 Z A B M k n i).length = Z.length := by rw [mRow2, mulL_length, mRow1_length]
theorem mRow_words (hZ : Words Z) (i : Nat) : Words (mRow Z A B M k n i) := by
  induction i with
  | zero => exact hZ
  | succ i ih => rw [mRow_succ]; exact (mulL_words (mulL_words ih _ _ _ _ _) _ _ _ _ _).set _ (addLo_lt _ _ _)
theorem mRow1_words (hZ : Words Z) (i : Nat) : Words (mRow1 Z A B M k n i) := mulL_words (mRow_words hZ i) _ _ _ _ _
theorem mRow2_words (hZ : Words Z) (i : Nat) : Words (mRow2 Z A B M k n i) := mulL_words (mRow1_words hZ i) _ _ _ _ _
theorem mY_lt (i : Nat) : mY Z A B M k n i < W := Nat.mod_lt _ W_pos
theorem mCar_le (i : Nat) : mCar Z A B M k n i ≤ 1 := by
  induction i with
  | zero => rw [mCar_zero]; omega
  | succ i ih => rw [mCar_succ]; exact addHi_le (mulC_lt _ _ _ _ _ _) (mulC_lt _ _ _ _ _ _) ih

theorem seg_succ_front (T : List Nat) (o : Nat) : ∀ n, seg T o (n + 1) = nth T o + W * seg T (o + 1) n := by
  intro n
  induction n with
  | zero => simp [seg]
  | succ n ih =>
    rw [seg, ih]
    simp only [seg]
    rw [Nat.pow_succ, Nat.mul_add, show o + (n + 1) = o + 1 + n by omega, Nat.mul_comm (W ^ n) W, Nat.mul_assoc, Nat.add_assoc]

/-- What the window counts to behind i rounds. -/
def mU (Z A B M : List Nat) (k n i : Nat) : Nat := seg (mRow Z A B M k n i) i n + W ^ n * mCar Z A B M k n i

theorem low_zero {t y m k : Nat} (hk : (k * m) % W = W - 1) (hy : y = t * k % W) : (t + y * m) % W = 0 := by
  have h1 : (t + y * m) % W = (t * (1 + k * m)) % W := by
    rw [hy, Nat.add_mod, Nat.mod_mul_mod, Nat.mul_add, Nat.mul_one, Nat.mul_assoc, ← Nat.add_mod]
  have hW := W_pos
  have h2 : (1 + k * m) % W = 0 := by
    rw [Nat.add_mod, hk]
    have : 1 % W = 1 := Nat.mod_eq_of_lt (by rw [W_eq]; omega)
    rw [this, show 1 + (W - 1) = W by omega, Nat.mod_self]
  rw [h1, Nat.mul_mod, h2, Nat.mul_zero, Nat.zero_mod]

/-- One round: the window times W is what it was, and the round's digit of b times a, and a multiple of m. -/
theorem mU_step (hZ : Words Z) (hA : Words A) (hB : Words B) (hM : Words M) (hn : 0 < n) (hal : A.length = n) (hml : M.length = n) (hk : (k * nth M 0) % W = W - 1) {i : Nat} (hi : i < n) (hz : 2 * n ≤ Z.length) :
    W * mU Z A B M k n (i + 1) = mU Z A B M k n i + nth B i * val A + mY Z A B M k n i * val M := by
  have sA : seg A 0 n = val A := by rw [seg_whole _ _ (by omega), ← hal, List.take_length]
  have sM : seg M 0 n = val M := by rw [seg_whole _ _ (by omega), ← hml, List.take_length]
  have e1 : seg (mRow1 Z A B M k n i) i n + W ^ n * mCar1 Z A B M k n i = seg (mRow Z A B M k n i) i n + nth B i * val A := by
    have := mulL_seg (mRow_words hZ i (A := A) (B := B) (M := M) (k := k) (n := n)) hA (oz := i) (ox := 0) (hB.nth i) n (by rw [mRow_length]; omega)
    rw [sA] at this
    exact this
  have e2 : seg (mRow2 Z A B M k n i) i n + W ^ n * mCar2 Z A B M k n i = seg (mRow1 Z A B M k n i) i n + mY Z A B M k n i * val M := by
    have := mulL_seg (mRow1_words hZ i (A := A) (B := B) (M := M) (k := k) (n := n)) hM (oz := i) (ox := 0) (mY_lt (Z := Z) (A := A) (B := B) (M := M) (k := k) (n := n) i) n (by rw [mRow1_length]; omega)
    rw [sM] at this
    exact this
  obtain ⟨n', rfl⟩ : ∃ n', n = n' + 1 := ⟨n - 1, by omega⟩
  have hlow : nth (mRow2 Z A B M k (n' + 1) i) i = 0 := by
    have f2 := seg_succ_front (mRow2 Z A B M k (n' + 1) i) i n'
    have f1 := seg_succ_front (mRow1 Z A B M k (n' + 1) i) i n'
    have fm : val M = nth M 0 + W * seg M 1 n' := by rw [← sM, seg_succ_front]
    have hz0 := low_zero (t := nth (mRow1 Z A B M k (n' + 1) i) i) hk (y := mY Z A B M k (n' + 1) i) rfl
    have hw := (mRow2_words hZ i (A := A) (B := B) (M := M) (k := k) (n := n' + 1)).nth i
    have hmod : nth (mRow2 Z A B M k (n' + 1) i) i % W = (nth (mRow1 Z A B M k (n' + 1) i) i + mY Z A B M k (n' + 1) i * nth M 0) % W := by
      have h3 := congrArg (fun t => t % W) e2
      rw [f2, f1, fm, Nat.pow_succ, Nat.mul_add] at h3
      rw [show W ^ n' * W * mCar2 Z A B M k (n' + 1) i = W * (W ^ n' * mCar2 Z A B M k (n' + 1) i) by rw [Nat.mul_comm (W ^ n') W, Nat.mul_assoc]] at h3
      rw [show mY Z A B M k (n' + 1) i * (W * seg M 1 n') = W * (mY Z A B M k (n' + 1) i * seg M 1 n') by rw [Nat.mul_left_comm]] at h3
      rw [Nat.add_mul_mod_self_left, Nat.add_mul_mod_self_left] at h3
      rw [h3]
      rw [show ∀ a b c d : Nat, a + W * b + (c + W * d) = a + c + W * (b + d) from fun a b c d => by rw [Nat.mul_add]; omega]
      rw [Nat.add_mul_mod_self_left]
    rw [Nat.mod_eq_of_lt hw, hz0] at hmod
    exact hmod
  have f2 := seg_succ_front (mRow2 Z A B M k (n' + 1) i) i n'
  rw [hlow, Nat.zero_add] at f2
  have f3 : seg (mRow Z A B M k (n' + 1) (i + 1)) (i + 1) (n' + 1) = seg (mRow2 Z A B M k (n' + 1) i) (i + 1) n' + W ^ n' * addLo (mCar1 Z A B M k (n' + 1) i) (mCar2 Z A B M k (n' + 1) i) (mCar Z A B M k (n' + 1) i) := by
    rw [seg, mRow_succ]
    have c : seg ((mRow2 Z A B M k (n' + 1) i).set (n' + 1 + i) (addLo (mCar1 Z A B M k (n' + 1) i) (mCar2 Z A B M k (n' + 1) i) (mCar Z A B M k (n' + 1) i))) (i + 1) n' = seg (mRow2 Z A B M k (n' + 1) i) (i + 1) n' :=
      seg_congr n' fun j hj => nth_set_ne (by omega)
    rw [c, show i + 1 + n' = n' + 1 + i by omega, nth_set_same (by rw [mRow2_length]; omega)]
  have hadd := add_eq (mCar1 Z A B M k (n' + 1) i) (mCar2 Z A B M k (n' + 1) i) (mCar Z A B M k (n' + 1) i)
  unfold mU
  rw [f3, mCar_succ]
  rw [f2] at e2
  generalize addLo (mCar1 Z A B M k (n' + 1) i) (mCar2 Z A B M k (n' + 1) i) (mCar Z A B M k (n' + 1) i) = lo at *
  generalize addHi (mCar1 Z A B M k (n' + 1) i) (mCar2 Z A B M k (n' + 1) i) (mCar Z A B M k (n' + 1) i) = hi at *
  have g1 : W * (seg (mRow2 Z A B M k (n' + 1) i) (i + 1) n' + W ^ n' * lo + W ^ (n' + 1) * hi) = W * seg (mRow2 Z A B M k (n' + 1) i) (i + 1) n' + W ^ (n' + 1) * (lo + W * hi) := by
    rw [Nat.mul_add, Nat.mul_add, Nat.mul_add, Nat.pow_succ, Nat.add_assoc]
    congr 2
    · rw [Nat.mul_comm (W ^ n') W, Nat.mul_assoc]
    · rw [Nat.mul_left_comm]
  rw [g1, hadd, Nat.mul_add, Nat.mul_add]
  omega

theorem mU_lt (hZ : Words Z) (hA : Words A) (hB : Words B) (hM : Words M) (hn : 0 < n) (hal : A.length = n) (hml : M.length = n) (hk : (k * nth M 0) % W = W - 1) (hz : 2 * n ≤ Z.length) (hz0 : val (Z.take n) = 0) (hMp : 0 < val M) :
    ∀ i, i ≤ n → mU Z A B M k n i < val A + val M := by
  intro i
  induction i with
  | zero =>
    intro _
    unfold mU
    rw [mRow_zero, mCar_zero, seg_whole _ _ (by omega), hz0]
    omega
  | succ i ih =>
    intro hi
    have h := ih (by omega)
    have e := mU_step hZ hA hB hM hn hal hml hk (i := i) (by omega) hz
    have b1 := hB.nth i
    have b2 := mY_lt (Z := Z) (A := A) (B := B) (M := M) (k := k) (n := n) i
    have c1 : nth B i * val A ≤ (W - 1) * val A := Nat.mul_le_mul_right _ (by omega)
    have c2 : mY Z A B M k n i * val M ≤ (W - 1) * val M := Nat.mul_le_mul_right _ (by omega)
    have hW := W_pos
    have d1 : (W - 1) * val A + val A = W * val A := by rw [← Nat.succ_mul]; congr 1
    have d2 : (W - 1) * val M + val M = W * val M := by rw [← Nat.succ_mul]; congr 1
    have : W * mU Z A B M k n (i + 1) < W * (val A + val M) := by rw [e, Nat.mul_add]; omega
    exact Nat.lt_of_mul_lt_mul_left this

theorem mU_mod (hZ : Words Z) (hA : Words A) (hB : Words B) (hM : Words M) (hn : 0 < n) (hal : A.length = n) (hml : M.length = n) (hk : (k * nth M 0) % W = W - 1) (hz : 2 * n ≤ Z.length) (hz0 : val (Z.take n) = 0) :
    ∀ i, i ≤ n → (W ^ i * mU Z A B M k n i) % val M = (val A * seg B 0 i) % val M := by
  intro i
  induction i with
  | zero =>
    intro _
    unfold mU
    rw [mRow_zero, mCar_zero, seg_whole _ _ (by omega), hz0]
    simp [seg]
  | succ i ih =>
    intro hi
    have e := mU_step hZ hA hB hM hn hal hml hk (i := i) (by omega) hz
    have g : W ^ (i + 1) * mU Z A B M k n (i + 1) = W ^ i * mU Z A B M k n i + val A * (W ^ i * nth B i) + val M * (W ^ i * mY Z A B M k n i) := by
      rw [Nat.pow_succ, Nat.mul_assoc, e, Nat.mul_add, Nat.mul_add]
      ac_rfl
    rw [g, Nat.add_mul_mod_self_left, seg, Nat.zero_add, Nat.mul_add, Nat.add_mod, ih (by omega), ← Nat.add_mod]

/-- The result: U modulo m. -/
theorem mont_eq (hZ : Words Z) (hA : Words A) (hB : Words B) (hM : Words M) (hn : 0 < n) (hal : A.length = n) (hbl : B.length = n) (hml : M.length = n) (hk : (k * nth M 0) % W = W - 1) (hz : 2 * n ≤ Z.length) (hz0 : val (Z.take n) = 0)
    {r : Nat} (hr : r = mU Z A B M k n n % val M) : (r * W ^ n) % val M = (val A * val B) % val M := by
  have h := mU_mod hZ hA hB hM hn hal hml hk hz hz0 n (Nat.le_refl _)
  rw [seg_whole _ _ (by omega), ← hbl, List.take_length, hbl] at h
  rw [hr, Nat.mod_mul_mod, Nat.mul_comm, h]

end
end Go.Proofs.YtkhopfobjijnlaaGreatDoor
