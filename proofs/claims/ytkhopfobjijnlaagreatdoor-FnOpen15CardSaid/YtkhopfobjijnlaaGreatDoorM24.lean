/- bigmod's shiftIn: its law. bigmod's shiftIn: the walk. -/
import Derived.Test.YtkhopfobjijnlaaGreatDoorM23
import Derived.Deep.Cut
set_option linter.all false
set_option exponentiation.threshold 7000000
namespace Go.Proofs.YtkhopfobjijnlaaGreatDoor
open Go.RowKit

/-- The carries of doubling S with c ahead; the borrows of taking M off what comes. -/
def dC (S : List Nat) (c : Nat) : Nat → Nat
  | 0 => c
  | k + 1 => addHi (nth S k) (nth S k) (dC S c k)
def dW (S : List Nat) (c k : Nat) : Nat := addLo (nth S k) (nth S k) (dC S c k)
def dL (S X : List Nat) (c : Nat) : Nat → List Nat
  | 0 => X
  | k + 1 => (dL S X c k).set k (dW S c k)
def eC (S M : List Nat) (c : Nat) : Nat → Nat
  | 0 => 0
  | k + 1 => subHi (dW S c k) (nth M k) (eC S M c k)
def eL (S M D : List Nat) (c : Nat) : Nat → List Nat
  | 0 => D
  | k + 1 => (eL S M D c k).set k (subLo (dW S c k) (nth M k) (eC S M c k))

theorem dL_len (S X : List Nat) (c k : Nat) : (dL S X c k).length = X.length := by
  induction k with
  | zero => rfl
  | succ k ih => simp [dL, ih]
theorem eL_len (S M D : List Nat) (c k : Nat) : (eL S M D c k).length = D.length := by
  induction k with
  | zero => rfl
  | succ k ih => simp [eL, ih]
theorem dC_le {S : List Nat} (hS : Words S) {c : Nat} (hc : c ≤ 1) (k : Nat) : dC S c k ≤ 1 := by
  induction k with
  | zero => exact hc
  | succ k ih => exact addHi_le (hS.nth k) (hS.nth k) ih
theorem eC_le (S M : List Nat) (c k : Nat) : eC S M c k ≤ 1 := by
  cases k with
  | zero => simp [eC]
  | succ k => exact subHi_le _ _ _
theorem dW_lt (S : List Nat) (c k : Nat) : dW S c k < W := addLo_lt _ _ _
theorem dL_words {S X : List Nat} (hX : Words X) (c k : Nat) : Words (dL S X c k) := by
  induction k with
  | zero => exact hX
  | succ k ih => exact ih.set _ (dW_lt _ _ _)
theorem eL_words {S M D : List Nat} (hD : Words D) (c k : Nat) : Words (eL S M D c k) := by
  induction k with
  | zero => exact hD
  | succ k ih => exact ih.set _ (subLo_lt _ _ _)
theorem dL_at {S X : List Nat} (c k j : Nat) (h : k ≤ j) : nth (dL S X c k) j = nth X j := by
  induction k with
  | zero => rfl
  | succ k ih => rw [dL, nth_set_ne (by omega), ih (by omega)]
theorem eL_at {S M D : List Nat} (c k j : Nat) (h : k ≤ j) : nth (eL S M D c k) j = nth D j := by
  induction k with
  | zero => rfl
  | succ k ih => rw [eL, nth_set_ne (by omega), ih (by omega)]
theorem dL_val {S X : List Nat} (hl : S.length = X.length) (c : Nat) : ∀ k, k ≤ X.length → val ((dL S X c k).take k) + W ^ k * dC S c k = 2 * val (S.take k) + c := by
  intro k
  induction k with
  | zero => intro _; simp [dC, val]
  | succ k ih =>
    intro hk
    have h1 := ih (by omega)
    have hlen := dL_len S X c k
    rw [val_take_succ (by rw [dL_len]; omega), val_take_succ (by omega)]
    simp only [dL, dC]
    rw [take_set_ge (Nat.le_refl _), nth_set_same (by omega), Nat.pow_succ]
    have h2 : dW S c k + W * addHi (nth S k) (nth S k) (dC S c k) = nth S k + nth S k + dC S c k := by
      unfold dW addLo addHi
      exact Nat.mod_add_div _ _
    generalize W ^ k = p at *
    generalize addHi (nth S k) (nth S k) (dC S c k) = hi at *
    generalize dW S c k = lo at *
    have h3 : p * (lo + W * hi) = p * (nth S k + nth S k + dC S c k) := by rw [h2]
    simp only [Nat.mul_add, ← Nat.mul_assoc] at h3
    omega
theorem dL_nth {S X : List Nat} (c : Nat) : ∀ k j, j < k → k ≤ X.length → nth (dL S X c k) j = dW S c j := by
  intro k
  induction k with
  | zero => intro j h; omega
  | succ k ih =>
    intro j h hk
    simp only [dL]
    by_cases hj : j = k
    · subst hj; rw [nth_set_same (by rw [dL_len]; omega)]
    · rw [nth_set_ne (Ne.symm hj), ih j (by omega) (by omega)]
theorem eL_val {S M D X : List Nat} (hM : Words M) (hl : M.length = X.length) (hd : D.length = X.length) (c : Nat) : ∀ k, k ≤ X.length → val ((eL S M D c k).take k) + val (M.take k) = val ((dL S X c X.length).take k) + W ^ k * eC S M c k := by
  intro k
  induction k with
  | zero => intro _; simp [eC, val]
  | succ k ih =>
    intro hk
    have h1 := ih (by omega)
    have hlen := eL_len S M D c k
    rw [val_take_succ (by rw [eL_len]; omega), val_take_succ (by omega), val_take_succ (by rw [dL_len]; omega), dL_nth c X.length k (by omega) (Nat.le_refl _)]
    simp only [eL, eC]
    rw [take_set_ge (Nat.le_refl _), nth_set_same (by omega), Nat.pow_succ]
    have h2 : subLo (dW S c k) (nth M k) (eC S M c k) + nth M k + eC S M c k = dW S c k + W * subHi (dW S c k) (nth M k) (eC S M c k) := by
      have := sub_eq (dW_lt S c k) (hM.nth k) (eC_le S M c k)
      omega
    generalize W ^ k = p at *
    generalize subHi (dW S c k) (nth M k) (eC S M c k) = hi at *
    generalize subLo (dW S c k) (nth M k) (eC S M c k) = lo at *
    have h3 : p * (lo + nth M k + eC S M c k) = p * (dW S c k + W * hi) := by rw [h2]
    simp only [Nat.mul_add, ← Nat.mul_assoc] at h3
    omega

/-- One bit more: what is chosen behind the round. -/
theorem shift_round {S X D M : List Nat} {c : Nat} (hS : Words S) (hX : Words X) (hD : Words D) (hM : Words M) (l1 : S.length = X.length) (l2 : M.length = X.length) (l3 : D.length = X.length) (hc : c ≤ 1) (hlt : val S < val M) :
    Below' (selW (max (notB (eC S M c X.length)) (dC S c X.length)) (dL S X c X.length) (eL S M D c X.length)) M ∧
      val (selW (max (notB (eC S M c X.length)) (dC S c X.length)) (dL S X c X.length) (eL S M D c X.length)) = (2 * val S + c) % val M := by
  have h1 := dL_val (X := X) l1 c X.length (Nat.le_refl _)
  have h2 := eL_val (S := S) (D := D) hM l2 l3 c X.length (Nat.le_refl _)
  have e1 : (dL S X c X.length).take X.length = dL S X c X.length := List.take_of_length_le (by rw [dL_len]; exact Nat.le_refl _)
  have e2 : (eL S M D c X.length).take X.length = eL S M D c X.length := List.take_of_length_le (by rw [eL_len]; omega)
  have e3 : S.take X.length = S := List.take_of_length_le (by omega)
  have e4 : M.take X.length = M := List.take_of_length_le (by omega)
  rw [e1, e3] at h1
  rw [e1, e2, e4] at h2
  have b1 := val_lt (dL_words (S := S) hX c X.length)
  have b2 := val_lt (eL_words (S := S) (M := M) hD c X.length)
  have b3 := val_lt hM
  rw [dL_len] at b1
  rw [eL_len, l3] at b2
  rw [l2] at b3
  have c1 := dC_le hS hc X.length
  have c2 := eC_le S M c X.length
  generalize hE : eC S M c X.length = ec at *
  generalize hDc : dC S c X.length = dc at *
  generalize W ^ X.length = p at *
  have hsum : 2 * val S + c < 2 * val M := by omega
  have wX := dL_words (S := S) hX c X.length
  have wD := eL_words (S := S) (M := M) hD c X.length
  have hlX : (dL S X c X.length).length = M.length := by rw [dL_len]; omega
  have hlD : (eL S M D c X.length).length = M.length := by rw [eL_len]; omega
  rcases (by omega : dc = 0 ∨ dc = 1) with rfl | rfl
  · rcases (by omega : ec = 0 ∨ ec = 1) with rfl | rfl
    · rw [show selW (max (notB 0) 0) (dL S X c X.length) (eL S M D c X.length) = eL S M D c X.length from rfl]
      have hv : val (eL S M D c X.length) = 2 * val S + c - val M := by omega
      exact ⟨⟨hlD, wD, by omega⟩, by rw [hv, Nat.mod_eq_sub_mod (by omega), Nat.mod_eq_of_lt (by omega)]⟩
    · rw [show selW (max (notB 1) 0) (dL S X c X.length) (eL S M D c X.length) = dL S X c X.length from rfl]
      have hv : val (dL S X c X.length) = 2 * val S + c := by omega
      exact ⟨⟨hlX, wX, by omega⟩, by rw [hv, Nat.mod_eq_of_lt (by omega)]⟩
  · have hsel : selW (max (notB ec) 1) (dL S X c X.length) (eL S M D c X.length) = eL S M D c X.length := by
      unfold selW
      rw [if_neg (by omega)]
    rw [hsel]
    have hec : ec = 1 := by
      rcases (by omega : ec = 0 ∨ ec = 1) with rfl | rfl
      · omega
      · rfl
    subst hec
    have hv : val (eL S M D c X.length) = 2 * val S + c - val M := by omega
    exact ⟨⟨hlD, wD, by omega⟩, by rw [hv, Nat.mod_eq_sub_mod (by omega), Nat.mod_eq_of_lt (by omega)]⟩
end Go.Proofs.YtkhopfobjijnlaaGreatDoor
namespace Go.Proofs.YtkhopfobjijnlaaGreatDoor
open Go.RowKit

/-- A word's value, by a name that the walk does not take. -/
abbrev wordV (n : Nat) : Value := u64 n

theorem shift_next {a u i m : Nat} : (2 * ((a * 2 ^ (64 - (i + 1)) + u / 2 ^ (i + 1)) % m) + u / 2 ^ i % 2) % m = (a * 2 ^ (64 - (i + 1) + 1) + u / 2 ^ i) % m := by
  have e : u / 2 ^ i = 2 * (u / 2 ^ (i + 1)) + u / 2 ^ i % 2 := by
    rw [Nat.pow_succ, ← Nat.div_div_eq_div_mul]; omega
  rw [Nat.add_mod, Nat.mul_mod_mod, ← Nat.add_mod]
  congr 1
  have e2 : 2 ^ (64 - (i + 1) + 1) = 2 ^ (64 - (i + 1)) * 2 := by rw [Nat.pow_succ]
  rw [e2]
  generalize 2 ^ (64 - (i + 1)) = r
  generalize u / 2 ^ (i + 1) = s at *
  generalize u / 2 ^ i = v at *
  have : a * (r * 2) = 2 * (a * r) := by rw [← Nat.mul_assoc, Nat.mul_comm]
  omega

set_option maxRecDepth 100000 in
set_option maxHeartbeats 4000000 in
theorem c_shiftInG (w : World) (n m y q x p u : Nat) (M Q L R : List Nat) (hM : ModIs w n m y q M Q) (hx : NatIs w x p L R) (bL : Below' L M) (dqp : q ≠ p) (hu : u < W) :
    Calls Tryz.prog 95 #[ptr x, u64 u, ptr m] w fun e w' => ∃ L', e = .returned (ptr x) ∧ Mod [p] w w' ∧ NatIs w' x p L' R ∧ Below' L' M ∧ val L' = (val L * W + u) % val M := by
  obtain ⟨N, hN⟩ : ∃ N, N = M.length := ⟨_, rfl⟩
  have hcx := hx.cell
  rw [bL.len, ← hN] at hcx
  have hcap := hx.cap
  rw [bL.len, ← hN] at hcap
  have hx0 := hx.xlt
  have hp0 := hx.plt
  have hxp := hx.ne
  have hMw := hM
  obtain ⟨o, k0, r, hh⟩ := hMw.head
  have hy := hMw.nat
  have hqlt := hM.nat.plt
  have hylt := hM.nat.xlt
  have HLN : Hid (L.length = N) := hide (by rw [hN]; exact bL.len)
  have HN := hide hN
  have HU := hide hu
  have hroom := hM.room
  rw [← hN] at hroom
  have hgt : u / 2 ^ 64 = 0 := Nat.div_eq_of_lt (by rw [W_eq] at hu; omega)
  have HST : Hid (Below' (selW 0 L (List.replicate N 0)) M ∧ val (selW 0 L (List.replicate N 0)) = (val L * 2 ^ (64 - 64) + u / 2 ^ 64) % val M) := by
    refine hide ⟨bL, ?_⟩
    rw [hgt, Nat.sub_self, Nat.pow_zero, Nat.mul_one, Nat.add_zero, Nat.mod_eq_of_lt bL.lt]; rfl
  have WL := hide bL.words
  clear hN bL hu hgt
  go_enter Tryz.func95, Tryz.ntmps95
  go_wp2_with fail
  refine (c_NewNat _).mono ?_
  rintro e w1 ⟨t, pt, rfl, m1, ht1, g1, g2⟩
  have hh1 : MHead w1 m y o k0 r := Blk.mod hh m1 (by simp)
  have hy1 := hy.mod m1 (by simp) (by simp)
  have s1 := m1.size
  go_wp2_with fail
  refine (c_resetFor t pt m y q k0 o r [] _ M Q w1 ht1 hh1 hy1).mono ?_
  rintro e w2 ⟨pt2, Rt, rfl, m2, ht2, k2⟩
  rw [← HN.out] at ht2
  have hpt2 : w.heap.size ≤ pt2 := k2.ge g2 s1
  have m12 : Mod [] w w2 := Mod.trans (U := []) m1 m2 (by simp) (by simp; omega)
  have hx2 := hx.mod m12 (by simp) (by simp)
  have hh2 : MHead w2 m y o k0 r := Blk.mod hh m12 (by simp)
  have hy2 := hy.mod m12 (by simp) (by simp)
  have hc0 := hh2.c0
  have hcy := hy2.cell
  rw [← HN.out] at hcy
  have hcx2 := hx2.cell
  rw [HLN.out] at hcx2
  have hct := ht2.cell
  rw [List.length_replicate] at hct
  have s2 := m12.size
  have htp := ht2.ne
  have cpt : N ≤ N + Rt.length := by omega
  have cq : N ≤ N + Q.length := by omega
  have cr : N ≤ N + R.length := by omega
  have hcap2 := ht2.cap
  rw [List.length_replicate] at hcap2
  have hcap3 := hy2.cap
  rw [← HN.out] at hcap3
  have dxt : x ≠ pt2 := by omega
  have dtp : t ≠ p := by omega
  have dpp : p ≠ pt2 := by omega
  have dqt : q ≠ pt2 := by omega
  have HR0 := hide ht2.row
  have HX0 := hide hx2.row
  clear m1 m2 ht1 hh1 hy1 k2 hcx hMw hh hy
  go_wp2_with fail
  go_loopw [12, 13] (fun nv iv wr => ∃ (i need : Nat) (X D : List Nat), nv = wordV need ∧ iv = .int .i64 ((i : Int) - 1) ∧ need ≤ 1 ∧ i ≤ 64 ∧ Hid (X.length = N ∧ D.length = N) ∧ Hid (Words X ∧ Words D) ∧ Mod [p, pt2] w2 wr ∧ Blk wr p 98 ((X ++ R).map wordV) ∧ Blk wr pt2 98 ((D ++ Rt).map wordV) ∧ Hid (Below' (selW need X D) M ∧ val (selW need X D) = (val L * 2 ^ (64 - i) + u / 2 ^ i) % val M)) (fun _ iv _ => (intOf iv + 1).toNat)
  case atStart => exact ⟨64, 0, L, _, rfl, rfl, by omega, by omega, hide ⟨HLN.out, by simp⟩, hide ⟨WL.out, Words.replicate0 _⟩, Mod.refl _ _, HX0.out, HR0.out, HST⟩
  case round =>
    obtain ⟨i, need, X, D, rfl, rfl, hnd, hi, hl, hw, hm, hX, hD, hV⟩ := hrel
    have m0r : Mod [p] w wr := Mod.trans (U := [p]) m12 hm (by simp) (fun a ha hlt => by simp at ha; rcases ha with rfl | rfl; simp; omega)
    cases i with
    | zero =>
      have hx3 : NatIs wr x p X R := hx2.put (by rw [hl.out.1, HLN.out]) (hm.block x hx2.xlt (by simp; exact ⟨hxp, dxt⟩)) hX
      have ht3 : NatIs wr t pt2 D Rt := ht2.put (by rw [hl.out.2]; simp) (hm.block t ht2.xlt (by simp; exact ⟨dtp, htp⟩)) hD
      have C := hide (c_assign x t p pt2 need X R D Rt wr hx3 ht3 (by rw [hl.out.1, hl.out.2]) hw.out.1 hw.out.2 hnd)
      go_wp2_with fail
      refine C.out.mono ?_
      rintro e w' ⟨rfl, m4, h4⟩
      have m5 : Mod [p] w w' := Mod.trans (U := [p]) m0r m4 (fun a ha _ => ha) (fun a ha _ => ha)
      go_wp2_with fail
      go_ret
      refine ⟨_, rfl, m5, h4, hV.out.1, ?_⟩
      rw [hV.out.2, Nat.pow_zero, Nat.div_one, W_two]
    | succ i =>
      have ei : Hid (((i + 1 : Nat) : Int) - 1 = (i : Int)) := hide (by omega)
      rw [ei.out]
      obtain ⟨c, hc⟩ : ∃ c, c = u / 2 ^ i % 2 := ⟨_, rfl⟩
      have hc1 : c ≤ 1 := by omega
      have hbit : bits .and .u64 ((u : Int) / 2 ^ i) 1 = (c : Int) := by
        have hd : u / 2 ^ i < 18446744073709551616 := Nat.lt_of_le_of_lt (Nat.div_le_self _ _) (by have := HU.out; rw [W_eq] at this; exact this)
        have h1 := bits_and_u64_nat (u / 2 ^ i) 1 hd (by omega)
        rw [Nat.and_one_is_mod, ← hc] at h1
        have e : (u : Int) / 2 ^ i = ((u / 2 ^ i : Nat) : Int) := by rw [Int.natCast_ediv, Int.natCast_pow]; rfl
        rw [e]
        exact_mod_cast h1
      obtain ⟨S, hS⟩ : ∃ S, S = selW need X D := ⟨_, rfl⟩
      have wS : Words S := by rw [hS]; unfold selW; split; exact hw.out.1; exact hw.out.2
      have lS : S.length = N := by rw [hS]; unfold selW; split; exact hl.out.1; exact hl.out.2
      have hSk : Hid (∀ k, nth S k = if need = 0 then nth X k else nth D k) := hide (fun k => by rw [hS]; unfold selW; split <;> rfl)
      rw [← hS] at hV
      have hNext := hide (shift_round (D := D) (c := c) wS hw.out.1 hw.out.2 hM.words (lS.trans hl.out.1.symm) (HN.out.symm.trans hl.out.1.symm) (hl.out.2.trans hl.out.1.symm) hc1 hV.out.1.lt)
      rw [hl.out.1, hV.out.2, hc, shift_next, ← hc, show 64 - (i + 1) + 1 = 64 - i by omega] at hNext
      have HLS := hide lS
      have WS := hide wS
      clear hS hc lS wS
      go_wp2_with fail
      refine (c_ctMask need hnd _).mono ?_
      rintro e w' ⟨rfl, rfl⟩
      go_wp2_with fail
      clear hbit
      go_loopw [14, 15, 17] (fun cv bv kv wx => ∃ k : Nat, k ≤ N ∧ cv = wordV (dC S c k) ∧ bv = wordV (eC S M c k) ∧ kv = i64 k ∧ Mod [p, pt2] w2 wx ∧ Blk wx p 98 ((dL S X c k ++ R).map wordV) ∧ Blk wx pt2 98 ((eL S M D c k ++ Rt).map wordV)) (fun _ _ kv _ => N - (intOf kv).toNat)
      case atStart => exact ⟨0, by omega, rfl, rfl, rfl, hm, hX, hD⟩
      case round =>
        clear hm hX hD m0r
        obtain ⟨k, hk, rfl, rfl, rfl, hm, hX, hD⟩ := hrel
        have hdc := dC_le WS.out hc1 k
        have hec := eC_le S M c k
        by_cases hlt : k < N
        · have cX : wr.cell? ⟨p, k, none⟩ = some (wordV (nth X k)) := by
            rw [hX.at k (by simp [dL_len, hl.out.1]; omega), nth_append_left (by rw [dL_len, hl.out.1]; exact hlt), dL_at _ _ _ (Nat.le_refl _)]
          have cD : wr.cell? ⟨pt2, k, none⟩ = some (wordV (nth D k)) := by
            rw [hD.at k (by simp [eL_len, hl.out.2]; omega), nth_append_left (by rw [eL_len, hl.out.2]; exact hlt), eL_at _ _ _ (Nat.le_refl _)]
          have cM := (hy2.mod hm (by simp; exact ⟨hy2.head.ne hx2.row (by decide), hy2.head.ne ht2.row (by decide)⟩) (by simp; exact ⟨dqp, dqt⟩)).at k (by rw [← HN.out]; exact hlt)
          have hmk := mask_word hnd (hw.out.1.nth k) (hw.out.2.nth k)
          rw [← hSk.out k] at hmk
          have fX := hX.frozen k
          have fD := hD.frozen k
          have hlt' : (k : Int) < (N : Int) := by omega
          have hs1 : Hid (addHi (nth S k) (nth S k) (dC S c k) = dC S c (k + 1)) := hide rfl
          have hs2 : Hid (addLo (nth S k) (nth S k) (dC S c k) = dW S c k) := hide rfl
          have hs3 : Hid (subHi (dW S c k) (nth M k) (eC S M c k) = eC S M c (k + 1)) := hide rfl
          go_wp2_with fail
          go_quiet (fail)
          obtain ⟨wq, hwq⟩ : ∃ wq, wq = wr.drewN nq := ⟨_, rfl⟩
          rw [← hwq]
          have qX : Blk wq p 98 ((dL S X c k ++ R).map wordV) := by rw [hwq]; exact hX.drewN _
          have qD : Blk wq pt2 98 ((eL S M D c k ++ Rt).map wordV) := by rw [hwq]; exact hD.drewN _
          have qm : Mod [p, pt2] w2 wq := by rw [hwq]; exact hm.drewN _
          have kX : wq.cell? ⟨p, k, none⟩ = some (wordV (nth X k)) := by rw [hwq]; exact cX
          have fqX := qX.frozen k
          have cMq : wq.cell? ⟨q, k, none⟩ = some (wordV (nth M k)) := by rw [hwq]; exact cM
          have cDq : wq.cell? ⟨pt2, k, none⟩ = some (wordV (nth D k)) := by rw [hwq]; exact cD
          obtain ⟨ws, hws⟩ : ∃ ws, ws = wq.setCell ⟨p, k, none⟩ (.int .u64 (dW S c k : Int)) := ⟨_, rfl⟩
          have hX2 : Blk ws p 98 ((dL S X c (k + 1) ++ R).map wordV) := by rw [hws]; exact row_set qX (by rw [dL_len, hl.out.1]; exact hlt)
          have hD2 : Blk ws pt2 98 ((eL S M D c k ++ Rt).map wordV) := by rw [hws]; exact qD.setCell_other _ _ (Ne.symm dpp)
          have cX2 : ws.cell? ⟨p, k, none⟩ = some (wordV (dW S c k)) := by
            rw [hX2.at k (by simp [dL_len, hl.out.1]; omega), nth_append_left (by rw [dL_len, hl.out.1]; exact hlt), dL, nth_set_same (by rw [dL_len, hl.out.1]; exact hlt)]
          have cM2 : ws.cell? ⟨q, k, none⟩ = some (wordV (nth M k)) := by
            rw [hws, ← cMq]; exact World.cell?_of_block (Below.heap_setCell _ _ _ _ dqp)
          have cD2 : ws.cell? ⟨pt2, k, none⟩ = some (wordV (nth D k)) := by
            rw [hws, ← cDq]; exact World.cell?_of_block (Below.heap_setCell _ _ _ _ (Ne.symm dpp))
          have fD2 := hD2.frozen k
          have hm2 : Mod [p, pt2] w2 ws := by rw [hws]; exact qm.setCell _ _ (by simp)
          have HWS := hide hws
          clear hX hD hm cX cD cM fX fD hmk hwq qX qD qm cMq cDq hws
          go_wp2_with fail
          refine (c_Add _ _ _ hdc _).mono ?_
          rintro e w' ⟨rfl, rfl⟩
          rw [hs2.out, hs1.out]
          go_upto_region 18 with fail
          rw [← HWS.out]
          have hm3 : Mod [p, pt2] w2 (ws.setCell ⟨pt2, k, none⟩ (wordV (subLo (dW S c k) (nth M k) (eC S M c k)))).drew := (hm2.setCell _ _ (by simp)).drew
          have hX3 : Blk (ws.setCell ⟨pt2, k, none⟩ (wordV (subLo (dW S c k) (nth M k) (eC S M c k)))).drew p 98 ((dL S X c (k + 1) ++ R).map wordV) := hX2.setCell_other _ _ dpp
          have hD3 : Blk (ws.setCell ⟨pt2, k, none⟩ (wordV (subLo (dW S c k) (nth M k) (eC S M c k)))).drew pt2 98 ((eL S M D c (k + 1) ++ Rt).map wordV) := row_set hD2 (by rw [eL_len, hl.out.2]; exact hlt)
          clear hX2 hD2 hm2
          go_region_with (first | (go_at_call 111; refine (c_Sub _ _ _ hec _).mono ?_; rintro e w' ⟨rfl, rfl⟩))
          all_goals go_wp2_with fail
          all_goals go_roundw
          all_goals first
            | exact ⟨k + 1, by omega, rfl, ret_word hs3.out, by go_num, hm3, hX3, hD3⟩
            | (simp [intOf]; omega)
        · obtain rfl : k = N := by omega
          have hor := or_bit (notB_le (eC S M c k)) hdc
          have hle : max (notB (eC S M c k)) (dC S c k) ≤ 1 := by have := notB_le (eC S M c k); omega
          go_wp2_with fail
          refine (c_not _ hec _).mono ?_
          rintro e w' ⟨rfl, rfl⟩
          go_wp2_with fail
          go_roundw
          case rel => exact ⟨i, max (notB (eC S M c k)) (dC S c k), dL S X c k, eL S M D c k, rfl, by go_num, hle, by omega, hide ⟨by rw [dL_len]; exact hl.out.1, by rw [eL_len]; exact hl.out.2⟩, hide ⟨dL_words hw.out.1 _ _, eL_words hw.out.2 _ _⟩, hm, hX, hD, hNext⟩
          case measure => first | (simp [intOf]; done) | (simp [intOf]; omega)

theorem c_shiftIn (w0 w : World) (n m y q x p u : Nat) (M Q L R : List Nat) (h0 : Mod [] w0 w) (hM : ModIs w0 n m y q M Q) (hx : NatIs w x p L R) (bL : Below' L M) (_gx : w0.heap.size ≤ x) (gp : w0.heap.size ≤ p) (hu : u < W) :
    Calls Tryz.prog 95 #[ptr x, u64 u, ptr m] w fun e w' => ∃ L', e = .returned (ptr x) ∧ Mod [p] w w' ∧ NatIs w' x p L' R ∧ Below' L' M ∧ val L' = (val L * W + u) % val M :=
  c_shiftInG w n m y q x p u M Q L R (hM.mod h0) hx bL (by have := hM.nat.plt; omega) hu
end Go.Proofs.YtkhopfobjijnlaaGreatDoor
