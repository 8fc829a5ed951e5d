/- bigmod's Mod. bigmod's Mul of an even modulus of at most 15 words. -/
import Derived.Test.YtkhopfobjijnlaaGreatDoorM24
import Derived.Deep.DeepCutAuto
import Derived.Deep.Cut
set_option linter.all false
set_option exponentiation.threshold 7000000
namespace Go.Proofs.YtkhopfobjijnlaaGreatDoor
open Go.RowKit

/-- A number without its lowest words. -/
theorem val_shr {L : List Nat} (hL : Words L) (i : Nat) (hi : i ≤ L.length) : val L / W ^ i = val (L.drop i) := by
  have h1 := val_split L i hi
  have h2 := val_lt (hL.take i)
  rw [List.length_take, Nat.min_eq_left hi] at h2
  rw [h1, Nat.add_mul_div_left _ _ (Nat.pow_pos W_pos), Nat.div_eq_of_lt h2, Nat.zero_add]
theorem val_shr_step {L : List Nat} (hL : Words L) {i : Nat} (hi : i < L.length) : val L / W ^ i = val L / W ^ (i + 1) * W + nth L i := by
  rw [val_shr hL i (by omega), val_shr hL (i + 1) (by omega), List.drop_eq_getElem_cons hi, val_cons, nth_eq _ _ hi, Nat.mul_comm W, Nat.add_comm]
theorem row_ext {A B : List Nat} (hl : A.length = B.length) (h : ∀ t, nth A t = nth B t) : A = B := by
  apply List.ext_getElem hl
  intro t h1 h2
  rw [← nth_eq _ _ h1, ← nth_eq _ _ h2]
  exact h t
/-- The row that Mod lays first. -/
structure ModRow (L O : List Nat) (N K j : Nat) : Prop where
  len : O.length = N
  words : Words O
  at' : ∀ t, nth O t = if j ≤ t ∧ t < K then nth L (L.length - K + t) else 0
theorem ModRow.start (L : List Nat) (N K : Nat) : ModRow L (List.replicate N 0) N K K := ⟨by simp, Words.replicate0 _, fun t => by rw [nth_replicate0, if_neg (by omega)]⟩
theorem ModRow.next {L O : List Nat} {N K j : Nat} (h : ModRow L O N K (j + 1)) (hL : Words L) (hj : j < K) (hK : K ≤ N) : ModRow L (O.set j (nth L (L.length - K + j))) N K j := by
  refine ⟨by simp [h.len], h.words.set _ (hL.nth _), fun t => ?_⟩
  by_cases ht : t = j
  · subst ht; rw [nth_set_same (by rw [h.len]; omega), if_pos ⟨Nat.le_refl _, hj⟩]
  · rw [nth_set_ne (by omega), h.at' t]
    by_cases h1 : j ≤ t ∧ t < K
    · rw [if_pos h1, if_pos (by omega)]
    · rw [if_neg h1, if_neg (by omega)]
theorem ModRow.done {L O M : List Nat} {N K : Nat} (h : ModRow L O N K 0) (hL : Words L) (hK : K ≤ L.length) (hKN : K + 1 ≤ N ∨ K = 0) (hM : M.length = N) (ht : nth M (N - 1) ≠ 0) (hN : 0 < N) :
    Below' O M ∧ val O = val L / W ^ (L.length - K) := by
  have e : O = padTo (L.drop (L.length - K)) N := by
    refine row_ext (by rw [padTo_length (by simp; omega)]; exact h.len) (fun t => ?_)
    rw [h.at' t]
    unfold padTo
    by_cases h4 : t < K
    · rw [if_pos ⟨by omega, h4⟩, nth_append_left (by simp; omega)]
      simp [nth]
    · rw [if_neg (by omega), nth_append_right (by simp; omega), nth_replicate0]
  have hv : val O = val (L.drop (L.length - K)) := by rw [e, padTo_val]
  have hlt : val O < val M := by
    have h1 := val_lt (hL.drop (L.length - K))
    rw [List.length_drop, ← hv, show L.length - (L.length - K) = K by omega] at h1
    have h2 := val_split M (N - 1) (by omega)
    have h3 : val (M.drop (N - 1)) ≠ 0 := by
      rw [List.drop_eq_getElem_cons (by omega), val_cons]
      rw [nth_eq _ _ (by omega)] at ht
      omega
    have h4 : W ^ (N - 1) * 1 ≤ W ^ (N - 1) * val (M.drop (N - 1)) := Nat.mul_le_mul_left _ (by omega)
    have h5 : W ^ K ≤ W ^ (N - 1) := Nat.pow_le_pow_right W_pos (by omega)
    omega
  refine ⟨⟨by rw [h.len, hM], h.words, hlt⟩, ?_⟩
  rw [hv, val_shr hL _ (by omega)]

set_option maxRecDepth 100000 in
set_option maxHeartbeats 4000000 in
theorem c_Mod (w0 w : World) (n m y q o po x px : Nat) (M Q Lo Ro L R : List Nat) (h0 : Mod [] w0 w) (hM : ModIs w0 n m y q M Q) (hO : NatIs w o po Lo Ro) (hx : NatIs w x px L R) (wL : Words L) (go : w0.heap.size ≤ o) (gpo : w0.heap.size ≤ po) (dx : x ≠ o) (dp : px ≠ po) :
    Calls Tryz.prog 61 #[ptr o, ptr x, ptr m] w fun e w' => ∃ p' X R', e = .returned (ptr o) ∧ Mod [o, po] w w' ∧ NatIs w' o p' X R' ∧ Kept w po p' ∧ w0.heap.size ≤ p' ∧ Below' X M ∧ val X = val L % val M := by
  obtain ⟨N, hN⟩ : ∃ N, N = M.length := ⟨_, rfl⟩
  have hNp : 0 < N := by rw [hN]; exact len_pos hM.big
  obtain ⟨K, hK⟩ : ∃ K, K = min (N - 1) L.length := ⟨_, rfl⟩
  obtain ⟨D, hD⟩ : ∃ D, D = L.length - K := ⟨_, rfl⟩
  have hMw := hM.mod h0
  obtain ⟨oo, kk, rr, hh⟩ := hMw.head
  have hy := hMw.nat
  have hs0 := h0.size
  have hx0 := hx.xlt
  have hx1 := hx.plt
  have hcapx := hx.cap
  have hroom := hM.room
  rw [← hN] at hroom
  have HTOP : Hid (nth M (N - 1) ≠ 0) := hide (by rw [hN]; exact hM.top (by have := len_pos hM.big; omega))
  have HN := hide hN
  have HK := hide hK
  have HD := hide hD
  have kN : K ≤ N := by omega
  have kL : K ≤ L.length := by omega
  have kD : D + K = L.length := by omega
  have eK : Hid ((if (L.length : Int) - 1 < (N : Int) - 2 then (L.length : Int) - 1 else (N : Int) - 2) = (K : Int) - 1) := hide (by split <;> omega)
  clear hN hK hD
  go_enter Tryz.func61, Tryz.ntmps61
  go_wp2_with fail
  refine (c_resetFor o po m y q kk oo rr Lo Ro M Q w hO hh hy).mono ?_
  rintro e w1 ⟨p1, R1, rfl, m1, h1, k1⟩
  rw [← HN.out] at h1
  have gp1 : w0.heap.size ≤ p1 := k1.ge gpo hs0
  have dp1 : px ≠ p1 := k1.ne hx1 dp
  have h01 : Mod [] w0 w1 := h0.keep2 m1 go gpo
  have hM1 := hM.mod h01
  obtain ⟨o1, k1', r1, hh1⟩ := hM1.head
  have hc0 := hh1.c0
  have hcy := hM1.nat.cell
  rw [← HN.out] at hcy
  have hx2 : NatIs w1 x px L R := hx.mod m1 (by simp; exact ⟨dx, hx.head.ne hO.row (by decide)⟩) (by simp; exact ⟨hx.row.ne hO.head (by decide), dp⟩)
  have hcx := hx2.cell
  have hco := h1.cell
  rw [List.length_replicate] at hco
  have hcap1 := h1.cap
  rw [List.length_replicate] at hcap1
  have hop := h1.ne
  have dxp : x ≠ p1 := hx2.head.ne h1.row (by decide)
  have HMR := hide (ModRow.start L N K)
  have HR0 := hide h1.row
  clear hMw hh hy
  go_upto_if 30 with fail
  go_cut [8] (fun jv wx => jv = .int .i64 ((K : Int) - 1) ∧ wx = w1)
  case first =>
    by_cases hlt : (L.length : Int) - 1 < (N : Int) - 2
    · have eK2 := eK.out
      rw [if_pos hlt] at eK2
      have EK2 := hide eK2
      clear eK2
      go_wp2_with fail
      go_meet
      exact ⟨by rw [EK2.out], rfl⟩
    · have eK2 := eK.out
      rw [if_neg hlt] at eK2
      have EK2 := hide eK2
      clear eK2
      go_wp2_with fail
      go_meet
      exact ⟨by rw [EK2.out], rfl⟩
  case rest =>
    obtain ⟨rfl, rfl⟩ := hcut
    go_wp2_with fail
    go_loopw [7, 9] (fun iv jv wr => ∃ (j : Nat) (O : List Nat), jv = .int .i64 ((j : Int) - 1) ∧ iv = .int .i64 (((D + j : Nat) : Int) - 1) ∧ j ≤ K ∧ Mod [p1] wc wr ∧ Blk wr p1 98 ((O ++ R1).map wordV) ∧ Hid (ModRow L O N K j)) (fun _ jv _ => (intOf jv + 1).toNat)
    case atStart => exact ⟨K, _, rfl, by rw [kD], by omega, Mod.refl _ _, HR0.out, HMR⟩
    case round =>
      clear HR0 HMR
      obtain ⟨j, O, rfl, rfl, hj, hmr, hO', hMR⟩ := hrel
      have hxr : NatIs wr x px L R := hx2.mod hmr (by simp; exact dxp) (by simp; exact dp1)
      have hcxr := hxr.cell
      have hcor : wr.cell? ⟨o, 0, none⟩ = some (sl p1 0 N (N + R1.length)) := by rw [← hco]; exact World.cell?_of_block (hmr.block o h1.xlt (by simp; exact hop))
      cases j with
      | succ j =>
        obtain ⟨dj, hdj⟩ : ∃ dj, dj = D + j := ⟨_, rfl⟩
        have e1 : Hid (((j + 1 : Nat) : Int) - 1 = (j : Int)) := hide (by omega)
        have e2 : Hid (((D + (j + 1) : Nat) : Int) - 1 = (dj : Int)) := hide (by omega)
        rw [e1.out, e2.out]
        have hlen := hMR.out.len
        have hcp := hxr.at dj (by omega)
        have hrow := hO'.at j (by simp; omega)
        rw [nth_append_left (by omega)] at hrow
        have hfz := hO'.frozen j
        have g1 : (dj : Int) < (L.length : Int) := by omega
        have g2 : (j : Int) < (N : Int) := by omega
        have hMR2 := hide (hMR.out.next wL (by omega) kN)
        rw [HD.out.symm, ← hdj] at hMR2
        have hO2 : Blk ((wr.setCell ⟨p1, j, none⟩ (wordV (nth L dj)))).drew p1 98 ((O.set j (nth L dj) ++ R1).map wordV) := row_set hO' (by omega)
        have hm2 : Mod [p1] wc (wr.setCell ⟨p1, j, none⟩ (wordV (nth L dj))).drew := (hmr.setCell _ _ (by simp)).drew
        have e3 : Hid ((dj : Int) - 1 = ((D + j : Nat) : Int) - 1) := hide (by omega)
        clear hlen hmr hO' hMR hdj hxr
        go_wp2_with fail
        go_region_with (fail)
        all_goals
          go_wp2_with fail
          go_roundw
          case rel => exact ⟨j, _, by go_num, by rw [← e3.out], by omega, hm2, hO2, hMR2⟩
          case measure => first | (simp [intOf]; done) | (simp [intOf]; omega)
      | zero =>
        have hKN : K + 1 ≤ N ∨ K = 0 := by have := HK.out; omega
        have hdone := hMR.out.done wL kL hKN HN.out.symm HTOP.out hNp
        rw [← HD.out] at hdone
        have nO : NatIs wr o p1 O R1 := h1.put (by rw [hMR.out.len]; simp) (hmr.block o h1.xlt (by simp; exact hop)) hO'
        have HV : Hid (val O = val L / W ^ D % val M) := hide (by rw [← hdone.2, Nat.mod_eq_of_lt hdone.1.lt])
        have bO := hdone.1
        have e0 : Hid ((((0 : Nat) : Int)) - 1 = -1) := hide (by omega)
        rw [e0.out]
        have eD : D + 0 = D := Nat.add_zero D
        rw [eD]
        clear hdone hMR hO' hKN eD hcor hcxr hxr
        obtain ⟨wo, rfl⟩ : ∃ wo : World, wo = wr := ⟨_, rfl⟩
        go_wp2_with fail
        go_loopw [7] (fun iv wr => ∃ (i : Nat) (X : List Nat), iv = .int .i64 ((i : Int) - 1) ∧ i ≤ D ∧ Mod [p1] wc wr ∧ NatIs wr o p1 X R1 ∧ Below' X M ∧ Hid (val X = val L / W ^ i % val M)) (fun iv _ => (intOf iv + 1).toNat)
        case atStart => exact ⟨D, O, rfl, by omega, hmr, nO, bO, HV⟩
        case round =>
          clear hmr nO bO HV
          obtain ⟨i, X, rfl, hi, hmr, nX, bX, hV⟩ := hrel
          cases i with
          | succ i =>
            have e1 : Hid (((i + 1 : Nat) : Int) - 1 = (i : Int)) := hide (by omega)
            rw [e1.out]
            have hxr : NatIs wr x px L R := hx2.mod hmr (by simp; exact dxp) (by simp; exact dp1)
            have hcxr := hxr.cell
            have hcp := hxr.at i (by omega)
            have g1 : (i : Int) < (L.length : Int) := by omega
            have C := hide (c_shiftIn w0 wr n m y q o p1 (nth L i) M Q X R1 (h01.keep1 hmr gp1) hM nX bX go gp1 (wL.nth i))
            have HVN : Hid (∀ v, v = (val X * W + nth L i) % val M → v = val L / W ^ i % val M) := hide (fun v hv => by
              rw [hv, hV.out, val_shr_step wL (show i < L.length by omega), Nat.add_mod, Nat.mod_mul_mod, ← Nat.add_mod])
            clear hxr
            go_wp2_with fail
            refine C.out.mono ?_
            rintro e w3 ⟨X', rfl, m3, n3, b3, e3⟩
            have HE := hide (HVN.out _ e3)
            have hm3 : Mod [p1] wc w3 := Mod.trans (U := [p1]) hmr m3 (fun a ha _ => ha) (fun a ha _ => ha)
            clear e3
            go_wp2_with fail
            go_roundw
            case rel => exact ⟨i, X', by go_num, by omega, hm3, n3, b3, HE⟩
            case measure => first | (simp [intOf]; done) | (simp [intOf]; omega)
          | zero =>
            have hfin : Mod [o, po] w wr := Mod.trans (U := [o, po]) m1 hmr (fun a ha _ => ha) (fun a ha hlt => by
              simp at ha
              rcases k1 with hk | hk
              · rw [ha, hk]; simp
              · omega)
            have hVF := hV.out
            rw [Nat.pow_zero, Nat.div_one] at hVF
            have HVF := hide hVF
            clear hVF
            go_wp2_with fail
            go_ret
            exact ⟨p1, X, R1, rfl, hfin, nX, k1, gp1, bX, HVF.out⟩
end Go.Proofs.YtkhopfobjijnlaaGreatDoor
namespace Go.Proofs.YtkhopfobjijnlaaGreatDoor
open Go.RowKit

theorem seg_add (T : List Nat) (o a : Nat) : ∀ b, seg T o (a + b) = seg T o a + W ^ a * seg T (o + a) b
  | 0 => by simp [seg]
  | b + 1 => by
    have ih := seg_add T o a b
    rw [← Nat.add_assoc]
    simp only [seg]
    rw [ih, Nat.mul_add, Nat.pow_add, Nat.add_assoc, Nat.add_assoc, Nat.mul_assoc]
/-- The rows of a product: i words of Y are done. -/
def pR (Z X Y : List Nat) (n : Nat) : Nat → List Nat
  | 0 => Z
  | i + 1 => (mulL (pR Z X Y n i) X i 0 (nth Y i) n).set (n + i) (mulC (pR Z X Y n i) X i 0 (nth Y i) n)
theorem pR_len (Z X Y : List Nat) (n i : Nat) : (pR Z X Y n i).length = Z.length := by
  induction i with
  | zero => rfl
  | succ i ih => simp [pR, mulL_length, ih]
theorem pR_words {Z X Y : List Nat} (hZ : Words Z) (n i : Nat) : Words (pR Z X Y n i) := by
  induction i with
  | zero => exact hZ
  | succ i ih => exact (mulL_words ih _ _ _ _ _).set _ (mulC_lt _ _ _ _ _ _)
theorem pR_high {Z X Y : List Nat} {n : Nat} (i j : Nat) (h : n + i ≤ j) : nth (pR Z X Y n i) j = nth Z j := by
  induction i with
  | zero => rfl
  | succ i ih => rw [pR, nth_set_ne (by omega), mulL_at _ _ _ _ _ (by omega), ih (by omega)]
theorem pR_val {Z X Y : List Nat} {n : Nat} (hZ : Words Z) (hX : Words X) (hY : Words Y) (hx : X.length = n) (hy : Y.length = n) (h0 : seg Z 0 n = 0) (hz : 2 * n ≤ Z.length) : ∀ i, i ≤ n → seg (pR Z X Y n i) 0 (n + i) = val X * val (Y.take i) := by
  intro i
  induction i with
  | zero => intro _; simp [pR, val, h0]
  | succ i ih =>
    intro hi
    have h1 := ih (by omega)
    have hl := pR_len Z X Y n i
    have hw := pR_words (X := X) (Y := Y) hZ n i
    have h2 := mulL_seg (oz := i) (ox := 0) (y := nth Y i) hw hX (hY.nth i) n (by omega)
    rw [seg_whole X n (by omega), List.take_of_length_le (by omega)] at h2
    have e1 : ∀ v, seg ((mulL (pR Z X Y n i) X i 0 (nth Y i) n).set (n + i) v) 0 (n + i) = seg (mulL (pR Z X Y n i) X i 0 (nth Y i) n) 0 (n + i) := fun v =>
      seg_congr _ fun j hj => by rw [Nat.zero_add, nth_set_ne (by omega)]
    rw [val_take_succ (by omega), Nat.mul_add, ← h1]
    show seg (pR Z X Y n (i + 1)) 0 (n + i) + W ^ (n + i) * nth (pR Z X Y n (i + 1)) (0 + (n + i)) = _
    simp only [pR]
    rw [e1, Nat.zero_add, nth_set_same (by rw [mulL_length, hl]; omega), Nat.add_comm n i, seg_add, seg_add]
    have e2 : seg (mulL (pR Z X Y n i) X i 0 (nth Y i) n) 0 i = seg (pR Z X Y n i) 0 i := seg_congr _ fun j hj => by rw [Nat.zero_add, mulL_below _ _ _ _ _ _ (by omega)]
    rw [e2, Nat.zero_add, Nat.pow_add]
    generalize W ^ i = a at *
    generalize W ^ n = b at *
    generalize mulC (pR Z X Y n i) X i 0 (nth Y i) n = cc at *
    generalize seg (mulL (pR Z X Y n i) X i 0 (nth Y i) n) i n = s1 at *
    generalize seg (pR Z X Y n i) i n = s2 at *
    generalize seg (pR Z X Y n i) 0 i = s3 at *
    have h3 : a * (s1 + b * cc) = a * (s2 + nth Y i * val X) := by rw [h2]
    simp only [Nat.mul_add, ← Nat.mul_assoc] at h3 ⊢
    have e4 : val X * a * nth Y i = a * nth Y i * val X := by rw [Nat.mul_comm (val X), Nat.mul_assoc, Nat.mul_comm (val X), Nat.mul_assoc]
    omega
end Go.Proofs.YtkhopfobjijnlaaGreatDoor
