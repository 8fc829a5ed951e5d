/- bigmod's Mul of an even modulus of at most 15 words: the walk. bigmod's Bytes: the walk. -/
import Derived.Test.YtkhopfobjijnlaaGreatDoorM25
import Derived.Test.YtkhopfobjijnlaaGreatDoorM23
import Derived.Test.YtkhopfobjijnlaaGreatDoorM10
import Derived.Deep.LoopGhost
set_option linter.all false
set_option exponentiation.threshold 7000000
namespace Go.Proofs.YtkhopfobjijnlaaGreatDoor
open Go.RowKit

theorem seg_zero0 (Z : List Nat) (n : Nat) (h : ∀ t, nth Z t = 0) : seg Z 0 n = 0 := by
  induction n with
  | zero => rfl
  | succ n ih => simp [seg, ih, h]

theorem ModIs.keepE {w w' : World} {S : List Nat} {n m y q : Nat} {M Q : List Nat} (h : ModIs w n m y q M Q) (he : val M % 2 = 0) (hm : Mod S w w') (h1 : m ∉ S) (h2 : y ∉ S) (h3 : q ∉ S) : ModIs w' n m y q M Q :=
  ⟨h.nat.mod hm h2 h3, h.words, h.top, h.big, h.room, fun he => (h.even he).mod hm h1, fun ho => absurd ho (by omega), h.new⟩

set_option maxRecDepth 100000 in
set_option maxHeartbeats 4000000 in
theorem c_ModG (w : World) (n m y q o po x px : Nat) (M Q Lo Ro L R : List Nat) (hM : ModIs w n m y q M Q) (he : val M % 2 = 0) (hO : NatIs w o po Lo Ro) (hx : NatIs w x px L R) (wL : Words L) (dyo : y ≠ o) (dqo : q ≠ po) (dx : x ≠ o) (dp : px ≠ po) :
    Calls Tryz.prog 61 #[ptr o, ptr x, ptr m] w fun e w' => ∃ p' X R', e = .returned (ptr o) ∧ Mod [o, po] w w' ∧ NatIs w' o p' X R' ∧ Kept w po p' ∧ Below' X M ∧ val X = val L % val M := by
  obtain ⟨N, hN⟩ : ∃ N, N = M.length := ⟨_, rfl⟩
  have hNp : 0 < N := by rw [hN]; exact len_pos hM.big
  obtain ⟨K, hK⟩ : ∃ K, K = min (N - 1) L.length := ⟨_, rfl⟩
  obtain ⟨D, hD⟩ : ∃ D, D = L.length - K := ⟨_, rfl⟩
  have hMw := hM
  have HE0 := hide he
  clear he
  obtain ⟨oo, kk, rr, hh⟩ := hMw.head
  have hy := hMw.nat
  have hx0 := hx.xlt
  have hx1 := hx.plt
  have hcapx := hx.cap
  have hroom := hM.room
  rw [← hN] at hroom
  have HTOP : Hid (nth M (N - 1) ≠ 0) := hide (by rw [hN]; exact hM.top (by have := len_pos hM.big; omega))
  have HN := hide hN
  have HK := hide hK
  have HD := hide hD
  have kN : K ≤ N := by omega
  have kL : K ≤ L.length := by omega
  have kD : D + K = L.length := by omega
  have eK : Hid ((if (L.length : Int) - 1 < (N : Int) - 2 then (L.length : Int) - 1 else (N : Int) - 2) = (K : Int) - 1) := hide (by split <;> omega)
  clear hN hK hD
  go_enter Tryz.func61, Tryz.ntmps61
  go_wp2_with fail
  refine (c_resetFor o po m y q kk oo rr Lo Ro M Q w hO hh hy).mono ?_
  rintro e w1 ⟨p1, R1, rfl, m1, h1, k1⟩
  rw [← HN.out] at h1
  have dp1 : px ≠ p1 := k1.ne hx1 dp
  have hM1 := hM.keepE HE0.out m1 (by simp; exact ⟨hh.ne hO.head (by decide), hh.ne hO.row (by decide)⟩) (by simp; exact ⟨dyo, hy.head.ne hO.row (by decide)⟩) (by simp; exact ⟨hy.row.ne hO.head (by decide), dqo⟩)
  have dq1 : q ≠ p1 := k1.ne hy.plt dqo
  obtain ⟨o1, k1', r1, hh1⟩ := hM1.head
  have hc0 := hh1.c0
  have hcy := hM1.nat.cell
  rw [← HN.out] at hcy
  have hx2 : NatIs w1 x px L R := hx.mod m1 (by simp; exact ⟨dx, hx.head.ne hO.row (by decide)⟩) (by simp; exact ⟨hx.row.ne hO.head (by decide), dp⟩)
  have hcx := hx2.cell
  have hco := h1.cell
  rw [List.length_replicate] at hco
  have hcap1 := h1.cap
  rw [List.length_replicate] at hcap1
  have hop := h1.ne
  have dxp : x ≠ p1 := hx2.head.ne h1.row (by decide)
  have HMR := hide (ModRow.start L N K)
  have HR0 := hide h1.row
  have dmp1 : m ≠ p1 := hh1.ne h1.row (by decide)
  have dyp1 : y ≠ p1 := hM1.nat.head.ne h1.row (by decide)
  clear hMw hh hy
  go_upto_if 30 with fail
  go_cut [8] (fun jv wx => jv = .int .i64 ((K : Int) - 1) ∧ wx = w1)
  case first =>
    by_cases hlt : (L.length : Int) - 1 < (N : Int) - 2
    · have eK2 := eK.out
      rw [if_pos hlt] at eK2
      have EK2 := hide eK2
      clear eK2
      go_wp2_with fail
      go_meet
      exact ⟨by rw [EK2.out], rfl⟩
    · have eK2 := eK.out
      rw [if_neg hlt] at eK2
      have EK2 := hide eK2
      clear eK2
      go_wp2_with fail
      go_meet
      exact ⟨by rw [EK2.out], rfl⟩
  case rest =>
    obtain ⟨rfl, rfl⟩ := hcut
    go_wp2_with fail
    go_loopw [7, 9] (fun iv jv wr => ∃ (j : Nat) (O : List Nat), jv = .int .i64 ((j : Int) - 1) ∧ iv = .int .i64 (((D + j : Nat) : Int) - 1) ∧ j ≤ K ∧ Mod [p1] wc wr ∧ Blk wr p1 98 ((O ++ R1).map wordV) ∧ Hid (ModRow L O N K j)) (fun _ jv _ => (intOf jv + 1).toNat)
    case atStart => exact ⟨K, _, rfl, by rw [kD], by omega, Mod.refl _ _, HR0.out, HMR⟩
    case round =>
      clear HR0 HMR
      obtain ⟨j, O, rfl, rfl, hj, hmr, hO', hMR⟩ := hrel
      have hxr : NatIs wr x px L R := hx2.mod hmr (by simp; exact dxp) (by simp; exact dp1)
      have hcxr := hxr.cell
      have hcor : wr.cell? ⟨o, 0, none⟩ = some (sl p1 0 N (N + R1.length)) := by rw [← hco]; exact World.cell?_of_block (hmr.block o h1.xlt (by simp; exact hop))
      cases j with
      | succ j =>
        obtain ⟨dj, hdj⟩ : ∃ dj, dj = D + j := ⟨_, rfl⟩
        have e1 : Hid (((j + 1 : Nat) : Int) - 1 = (j : Int)) := hide (by omega)
        have e2 : Hid (((D + (j + 1) : Nat) : Int) - 1 = (dj : Int)) := hide (by omega)
        rw [e1.out, e2.out]
        have hlen := hMR.out.len
        have hcp := hxr.at dj (by omega)
        have hrow := hO'.at j (by simp; omega)
        rw [nth_append_left (by omega)] at hrow
        have hfz := hO'.frozen j
        have g1 : (dj : Int) < (L.length : Int) := by omega
        have g2 : (j : Int) < (N : Int) := by omega
        have hMR2 := hide (hMR.out.next wL (by omega) kN)
        rw [HD.out.symm, ← hdj] at hMR2
        have hO2 : Blk ((wr.setCell ⟨p1, j, none⟩ (wordV (nth L dj)))).drew p1 98 ((O.set j (nth L dj) ++ R1).map wordV) := row_set hO' (by omega)
        have hm2 : Mod [p1] wc (wr.setCell ⟨p1, j, none⟩ (wordV (nth L dj))).drew := (hmr.setCell _ _ (by simp)).drew
        have e3 : Hid ((dj : Int) - 1 = ((D + j : Nat) : Int) - 1) := hide (by omega)
        clear hlen hmr hO' hMR hdj hxr
        go_wp2_with fail
        go_region_with (fail)
        all_goals
          go_wp2_with fail
          go_roundw
          case rel => exact ⟨j, _, by go_num, by rw [← e3.out], by omega, hm2, hO2, hMR2⟩
          case measure => first | (simp [intOf]; done) | (simp [intOf]; omega)
      | zero =>
        have hKN : K + 1 ≤ N ∨ K = 0 := by have := HK.out; omega
        have hdone := hMR.out.done wL kL hKN HN.out.symm HTOP.out hNp
        rw [← HD.out] at hdone
        have nO : NatIs wr o p1 O R1 := h1.put (by rw [hMR.out.len]; simp) (hmr.block o h1.xlt (by simp; exact hop)) hO'
        have HV : Hid (val O = val L / W ^ D % val M) := hide (by rw [← hdone.2, Nat.mod_eq_of_lt hdone.1.lt])
        have bO := hdone.1
        have e0 : Hid ((((0 : Nat) : Int)) - 1 = -1) := hide (by omega)
        rw [e0.out]
        have eD : D + 0 = D := Nat.add_zero D
        rw [eD]
        clear hdone hMR hO' hKN eD hcor hcxr hxr
        obtain ⟨wo, rfl⟩ : ∃ wo : World, wo = wr := ⟨_, rfl⟩
        go_wp2_with fail
        go_loopw [7] (fun iv wr => ∃ (i : Nat) (X : List Nat), iv = .int .i64 ((i : Int) - 1) ∧ i ≤ D ∧ Mod [p1] wc wr ∧ NatIs wr o p1 X R1 ∧ Below' X M ∧ Hid (val X = val L / W ^ i % val M)) (fun iv _ => (intOf iv + 1).toNat)
        case atStart => exact ⟨D, O, rfl, by omega, hmr, nO, bO, HV⟩
        case round =>
          clear hmr nO bO HV
          obtain ⟨i, X, rfl, hi, hmr, nX, bX, hV⟩ := hrel
          cases i with
          | succ i =>
            have e1 : Hid (((i + 1 : Nat) : Int) - 1 = (i : Int)) := hide (by omega)
            rw [e1.out]
            have hxr : NatIs wr x px L R := hx2.mod hmr (by simp; exact dxp) (by simp; exact dp1)
            have hcxr := hxr.cell
            have hcp := hxr.at i (by omega)
            have g1 : (i : Int) < (L.length : Int) := by omega
            have C := hide (c_shiftInG wr n m y q o p1 (nth L i) M Q X R1 (hM1.keepE HE0.out hmr (by simp; exact dmp1) (by simp; exact dyp1) (by simp; exact dq1)) nX bX dq1 (wL.nth i))
            have HVN : Hid (∀ v, v = (val X * W + nth L i) % val M → v = val L / W ^ i % val M) := hide (fun v hv => by
              rw [hv, hV.out, val_shr_step wL (show i < L.length by omega), Nat.add_mod, Nat.mod_mul_mod, ← Nat.add_mod])
            clear hxr
            go_wp2_with fail
            refine C.out.mono ?_
            rintro e w3 ⟨X', rfl, m3, n3, b3, e3⟩
            have HE := hide (HVN.out _ e3)
            have hm3 : Mod [p1] wc w3 := Mod.trans (U := [p1]) hmr m3 (fun a ha _ => ha) (fun a ha _ => ha)
            clear e3
            go_wp2_with fail
            go_roundw
            case rel => exact ⟨i, X', by go_num, by omega, hm3, n3, b3, HE⟩
            case measure => first | (simp [intOf]; done) | (simp [intOf]; omega)
          | zero =>
            have hfin : Mod [o, po] w wr := Mod.trans (U := [o, po]) m1 hmr (fun a ha _ => ha) (fun a ha hlt => by
              simp at ha
              rcases k1 with hk | hk
              · rw [ha, hk]; simp
              · omega)
            have hVF := hV.out
            rw [Nat.pow_zero, Nat.div_one] at hVF
            have HVF := hide hVF
            clear hVF
            go_wp2_with fail
            go_ret
            exact ⟨p1, X, R1, rfl, hfin, nX, k1, bX, HVF.out⟩
set_option maxRecDepth 4000000 in
set_option maxHeartbeats 4000000 in
theorem c_MulEvenG (w : World) (n m y q x p z pz : Nat) (M Q L R V S : List Nat) (hM : ModIs w n m y q M Q) (ho : val M % 2 = 0) (hl15 : M.length ≤ 15) (hx : NatIs w x p L R) (hz : NatIs w z pz V S) (bL : Below' L M) (wV : Words V) (lV : V.length = M.length)
    (dyx : y ≠ x) (dqp : q ≠ p) :
    Calls Tryz.prog 63 #[ptr x, ptr z, ptr m] w fun e w' =>
      ∃ p' X R', e = .returned (ptr x) ∧ Mod [x, p] w w' ∧ NatIs w' x p' X R' ∧ Kept w p p' ∧ Below' X M ∧ val X = (val L * val V) % val M := by
  have hMw := hM
  have hh := hMw.even ho
  have hc1 := hh.c1
  have hc0 := hh.c0
  have hcy := hMw.nat.cell
  have hcx := hx.cell
  have hcz := hz.cell
  have hx0 := hx.xlt
  have hp0 := hx.plt
  have hz0 := hz.xlt
  have hz1 := hz.plt
  have hcapx := hx.cap
  have hcapz := hz.cap
  have hcapy := hMw.nat.cap
  obtain ⟨N, hN⟩ : ∃ N, N = M.length := ⟨_, rfl⟩
  have hNp : 0 < N := by rw [hN]; exact len_pos hM.big
  have lL := bL.len
  rw [← hN] at hl15 lV lL hcy hcapy
  rw [lV] at hcz hcapz
  rw [lL] at hcx hcapx
  have wL := bL.words
  have HLV := hide lV
  have HLL := hide lL
  have HN := hide hN
  have HO := hide ho
  have g16 : ((N : Int) == 16) = false := by simp; omega
  have g24 : ((N : Int) == 24) = false := by simp; omega
  have g32 : ((N : Int) == 32) = false := by simp; omega
  have hmk1 : ∀ w, (Instr.makeSlice 97 (.int .i64 0) (.int .i64 64)).run Tryz.prog w = .ok (sl w.heap.size 0 0 64) (w.alloc (.cells ((zrow 64).map u64).toArray 98)) := make_uint 0 64 (by omega) (by omega)
  generalize hr1 : ((zrow 64).map u64).toArray = row1 at hmk1
  have HR1 := hide hr1
  clear hr1 lV lL hN ho
  have hdec : decide ((64 : Int) < (N : Int) * 2) = false := by simp; omega
  have hT : Blk (w.alloc (.cells row1 98)) w.heap.size 98 ((zrow 64).map u64) := by
    rw [← HR1.out]
    exact Blk.new w _ _
  have hM0 : Mod [] w (w.alloc (.cells row1 98)) := (Mod.refl [] w).alloc _
  go_enter Tryz.func63, Tryz.ntmps63
  go_wp2_with fail
  go_loopw [12] (fun i wr => ∃ j : Nat, j ≤ N ∧ i = i64 j ∧ Mod [] w wr ∧ Blk wr w.heap.size 98 ((pR (zrow 64) L V N j).map u64)) (fun i _ => N - (intOf i).toNat)
  case atStart => exact ⟨0, Nat.zero_le _, rfl, hM0, hT⟩
  case round =>
    obtain ⟨j, hj, rfl, hmod, hTj⟩ := hrel
    have hxr := hx.mod hmod (by simp) (by simp)
    have hzr := hz.mod hmod (by simp) (by simp)
    have zl : (pR (zrow 64) L V N j).length = 64 := by rw [pR_len, zrow_length]
    by_cases hlt : j < N
    · have hb1 : wr.cell? ⟨pz, j, none⟩ = some (u64 (nth V j)) := hzr.at j (by rw [HLV.out]; exact hlt)
      have C := hide (fun (wd : World) (hd : Mod [] wr wd) => c_addMul w.heap.size j (64 - j) x p (N + R.length) (nth V j) (pR (zrow 64) L V N j) L R wd (Blk.mod hTj hd (by simp)) (hxr.mod hd (by simp) (by simp)) (by omega) (by rw [HLL.out]; exact hNp) (by rw [zl, HLL.out]; omega) (pR_words (zrow_words _) _ _) wL (wV.nth j) (by rw [zl]; omega))
      have C1 := C.out
      rw [HLL.out] at C1
      have C2 := hide C1
      clear C C1
      have hs1 : IntKind.i64.wrap ((N : Int) + (j : Int)) = ((N + j : Nat) : Int) := IntWalk.i64_in _ (by omega)
      clear hb1
      have hb1 : wr.cell? ⟨pz, j, none⟩ = some (u64 (nth V j)) := hzr.at j (by rw [HLV.out]; exact hlt)
      have hcj : (j : Int) < (N : Int) := by omega
      clear zl
      go_wp2_with fail
      have HPW : Hid (Words (pR (zrow 64) L V N j)) := hide (pR_words (zrow_words _) _ _)
      have HZL : Hid ((pR (zrow 64) L V N j).length = 64) := hide (by rw [pR_len, zrow_length])
      have HNX : Hid ((mulL (pR (zrow 64) L V N j) L j 0 (nth V j) N).set (N + j) (mulC (pR (zrow 64) L V N j) L j 0 (nth V j) N) = pR (zrow 64) L V N (j + 1)) := hide rfl
      go_region_with ((go_at_call 98; refine (C2.out _ (Mod.refl _ _).drew).mono ?_; rintro e w1 ⟨rfl, m1, hT1⟩; have hf3 := hT1.frozen (N + j); have ht3 : w1.cell? ⟨w.heap.size, N + j, none⟩ = some (u64 (nth (mulL (pR (zrow 64) L V N j) L j 0 (nth V j) N) (N + j))) := hT1.at (N + j) (by rw [mulL_length, HZL.out]; omega)))
      all_goals
        have m2 : Mod [] w (w1.setCell ⟨w.heap.size, N + j, none⟩ (u64 (mulC (pR (zrow 64) L V N j) L j 0 (nth V j) N))) :=
          (Mod.trans (U := []) hmod m1.ofDrew (by simp) (by simp <;> omega)).setCell _ _ (by simp)
        have hT2 : Blk (w1.setCell ⟨w.heap.size, N + j, none⟩ (u64 (mulC (pR (zrow 64) L V N j) L j 0 (nth V j) N))) w.heap.size 98 ((pR (zrow 64) L V N (j + 1)).map u64) := by rw [← HNX.out]; exact hT1.set _ _
        clear hmod m1 hTj hT1 ht3 hf3 C2
        go_wp2_with fail
        go_roundw
        case rel => exact ⟨j + 1, by omega, by go_num, m2, hT2⟩
        case measure => simp [intOf]; omega
    · obtain rfl : N = j := by omega
      obtain ⟨T, hT⟩ : ∃ T, T = pR (zrow 64) L V N N := ⟨_, rfl⟩
      have hTv : val (T.take (2 * N)) = val L * val V := by
        have h := pR_val (Z := zrow 64) (X := L) (Y := V) (n := N) (zrow_words _) wL wV HLL.out HLV.out (seg_zero0 _ _ (fun t => nth_replicate0 _ _)) (by rw [zrow_length]; omega) N (Nat.le_refl _)
        rw [← hT, seg_whole _ _ (by rw [hT, pR_len, zrow_length]; omega), List.take_of_length_le (l := V) (by rw [HLV.out]; omega), ← Nat.two_mul] at h
        exact h
      have hTw : Words T := by rw [hT]; exact pR_words (zrow_words _) _ _
      rw [← hT] at hTj zl
      have HTV := hide hTv
      have hcj : ¬ (N : Int) < (N : Int) := by omega
      clear hTv hT
      have hTR : Blk wr w.heap.size 98 ((T.take (2 * N) ++ T.drop (2 * N)).map u64) := by rw [List.take_append_drop]; exact hTj
      have l1 : (T.take (2 * N)).length = N * 2 := by rw [List.length_take, zl]; omega
      have l2 : (T.drop (2 * N)).length = 64 - N * 2 := by rw [List.length_drop, zl]; omega
      have hTW : Words (T.take (2 * N)) := hTw.take _
      obtain ⟨wb, hwb⟩ : ∃ wb, wb = wr.alloc (.cells #[sl w.heap.size 0 (N * 2) 64] 126) := ⟨_, rfl⟩
      have hnb : NatIs wb wr.heap.size w.heap.size (T.take (2 * N)) (T.drop (2 * N)) := by
        refine ⟨?_, by rw [hwb]; exact hTR.alloc _, by rw [l1, l2]; omega⟩
        rw [l1, l2, hwb, show N * 2 + (64 - N * 2) = 64 by omega]
        exact Blk.new wr _ _
      have hmb : Mod [] w wb := by rw [hwb]; exact hmod.alloc _
      have hsr := hmod.size
      have C := hide (c_ModG wb n m y q x p wr.heap.size w.heap.size M Q L R (T.take (2 * N)) (T.drop (2 * N)) (hM.mod hmb) HO.out (hx.mod hmb (by simp) (by simp)) hnb hTW dyx dqp (by omega) (by omega))
      rw [HTV.out] at C
      clear hTR l1 l2 hTW hnb hTw hTj zl
      go_wp2_with fail
      rw [← hwb]
      refine C.out.mono ?_
      rintro e w2 ⟨p', X, R', rfl, m2, h2, k2, b2, e2⟩
      have m12 : Mod [x, p] w w2 := Mod.trans (U := [x, p]) hmb m2 (by simp) (fun a ha _ => ha)
      have k2' : Kept w p p' := by
        have := hmb.size
        rcases k2 with h | h
        · exact .inl h
        · exact .inr (by omega)
      have E2 := hide e2
      clear e2
      go_wp2_with fail
      go_ret
      exact ⟨p', X, R', rfl, m12, h2, k2', b2, E2.out⟩

theorem c_MulEven (w0 w : World) (n m y q x p z pz : Nat) (M Q L R V S : List Nat) (h0 : Mod [] w0 w) (hM : ModIs w0 n m y q M Q) (ho : val M % 2 = 0) (hl15 : M.length ≤ 15) (hx : NatIs w x p L R) (hz : NatIs w z pz V S) (bL : Below' L M) (wV : Words V) (lV : V.length = M.length)
    (gx : w0.heap.size ≤ x) (gp : w0.heap.size ≤ p) :
    Calls Tryz.prog 63 #[ptr x, ptr z, ptr m] w fun e w' =>
      ∃ p' X R', e = .returned (ptr x) ∧ Mod [x, p] w w' ∧ NatIs w' x p' X R' ∧ Kept w p p' ∧ w0.heap.size ≤ p' ∧ Below' X M ∧ val X = (val L * val V) % val M := by
  refine (c_MulEvenG w n m y q x p z pz M Q L R V S (hM.mod h0) ho hl15 hx hz bL wV lV (by have := hM.nat.xlt; omega) (by have := hM.nat.plt; omega)).mono ?_
  rintro e w' ⟨p', X, R', he, hm, hn, hk, hb, hv⟩
  exact ⟨p', X, R', he, hm, hn, hk, hk.ge gp h0.size, hb, hv⟩
end Go.Proofs.YtkhopfobjijnlaaGreatDoor
namespace Go.Proofs.YtkhopfobjijnlaaGreatDoor
open Go.RowKit

/-- Bytes on its way: the words ahead of k are laid, of word k the lowest t bytes; O is the row of n bytes, i of them are still to come. -/
structure NB (L O : List Nat) (n k t i : Nat) : Prop where
  len : O.length = n
  bytes : Bytes O
  left : i + (8 * k + t) = n
  low : ∀ j, j < 8 * k + t → nth O (n - 1 - j) = val L / 256 ^ j % 256
  rest : ∀ j, j < i → nth O j = 0
theorem NB.start (L : List Nat) (n : Nat) : NB L (List.replicate n 0) n 0 0 n := ⟨by simp, fun i => by rw [nth_replicate0]; omega, by omega, fun j h => by omega, fun j _ => nth_replicate0 _ _⟩
theorem NB.next {L O : List Nat} {n k t i v : Nat} (h : NB L O n k t (i + 1)) (hv : v = val L / 256 ^ (8 * k + t) % 256) : NB L (O.set i v) n k (t + 1) i := by
  have hl := h.len
  have hle := h.left
  have hvb : v < 256 := by rw [hv]; exact Nat.mod_lt _ (by omega)
  refine ⟨by simp [hl], fun j => ?_, by omega, fun j hj => ?_, fun j hj => by rw [nth_set_ne (by omega)]; exact h.rest j (by omega)⟩
  · by_cases hji : j = i
    · rw [hji, nth_set_same (by omega)]; exact hvb
    · rw [nth_set_ne (by omega)]; exact h.bytes j
  · by_cases hji : j = 8 * k + t
    · subst hji
      rw [show n - 1 - (8 * k + t) = i by omega, nth_set_same (by omega)]
      exact hv
    · rw [nth_set_ne (by omega)]; exact h.low j (by omega)
theorem NB.word {L O : List Nat} {n k i : Nat} (h : NB L O n k 8 i) : NB L O n (k + 1) 0 i := ⟨h.len, h.bytes, by have := h.left; omega, fun j hj => h.low j (by omega), h.rest⟩
/-- All that is still to come is 0. -/
theorem NB.done {L O : List Nat} {n k t i : Nat} (h : NB L O n k t i) (hfit : val L < 256 ^ (8 * k + t)) : bval O = val L := by
  have hle := h.left
  have hl := h.len
  have key : ∀ m, m ≤ n → bseg O n m = val L % 256 ^ m := by
    intro m
    induction m with
    | zero => intro _; simp [bseg, Nat.mod_one]
    | succ m ih =>
      intro hm
      rw [bseg, ih (by omega), Nat.pow_succ, Nat.mod_mul]
      rcases Nat.lt_or_ge m (8 * k + t) with h1 | h1
      · rw [h.low m h1]
      · have h2 : 256 ^ (8 * k + t) ≤ 256 ^ m := Nat.pow_le_pow_right (by omega) h1
        rw [h.rest _ (by omega), Nat.div_eq_of_lt (show val L < 256 ^ m by omega)]
  unfold bval
  have h3 : 256 ^ (8 * k + t) ≤ 256 ^ n := Nat.pow_le_pow_right (by omega) (by omega)
  rw [hl, key n (Nat.le_refl _), Nat.mod_eq_of_lt (by omega)]
/-- The word k by the whole number. -/
theorem word_of {L : List Nat} (hL : Words L) (k t : Nat) (ht : t < 8) : nth L k / 256 ^ t % 256 = val L / 256 ^ (8 * k + t) % 256 := by
  have eW : W = 256 ^ 8 := by rw [W_eq]
  rw [Nat.pow_add, Nat.pow_mul, ← eW, ← Nat.div_div_eq_div_mul]
  rcases Nat.lt_or_ge k L.length with hk | hk
  · have h1 := val_split L (k + 1) (by omega)
    rw [val_take_succ hk, Nat.pow_succ] at h1
    have h2 := val_lt (hL.take k)
    rw [List.length_take, Nat.min_eq_left (by omega)] at h2
    have h3 : val L = val (L.take k) + W ^ k * (nth L k + W * val (L.drop (k + 1))) := by rw [h1]; grind
    rw [h3, Nat.add_mul_div_left _ _ (Nat.pow_pos W_pos), Nat.div_eq_of_lt h2, Nat.zero_add]
    have e3 : W = 256 ^ t * (256 * 256 ^ (7 - t)) := by
      rw [eW, ← Nat.mul_assoc, ← Nat.pow_succ, ← Nat.pow_add]; congr 1; omega
    have e4 : nth L k + W * val (L.drop (k + 1)) = nth L k + 256 ^ t * (256 * (256 ^ (7 - t) * val (L.drop (k + 1)))) := by
      conv => lhs; rw [e3]
      grind
    rw [e4, Nat.add_mul_div_left _ _ (Nat.pow_pos (by omega)), Nat.add_mul_mod_self_left]
  · rw [nth_ge hk]
    have h2 := val_lt hL
    have h3 : W ^ L.length ≤ W ^ k := Nat.pow_le_pow_right W_pos hk
    rw [Nat.div_eq_of_lt (show val L < W ^ k by omega)]
/-- A word is 0 from a place on where the number is below it. -/
theorem word_zero {L : List Nat} (hL : Words L) {n k t : Nat} (h : val L < 256 ^ n) (hn : n ≤ 8 * k + t) : nth L k / 256 ^ t = 0 := by
  apply Nat.div_eq_of_lt
  rcases Nat.lt_or_ge k L.length with hk | hk
  · have h1 := val_split L (k + 1) (by omega)
    rw [val_take_succ hk] at h1
    have h3 : 256 ^ n ≤ 256 ^ (8 * k + t) := Nat.pow_le_pow_right (by omega) hn
    rw [Nat.pow_add, Nat.pow_mul] at h3
    have eW : W = 256 ^ 8 := by rw [W_eq]
    rw [← eW] at h3
    apply Classical.byContradiction
    intro hge
    have h4 : W ^ k * 256 ^ t ≤ W ^ k * nth L k := Nat.mul_le_mul_left _ (by omega)
    omega
  · rw [nth_ge hk]; exact Nat.pow_pos (by omega)

theorem made_u8' (n : Nat) (hn : n ≤ 17000000) (w : World) : ∃ g wa, (Instr.makeSlice 23 (.int .i64 n) (.int .i64 n)).run Tryz.prog w = .ok (sl g 0 n n) wa ∧ Mod [] w wa ∧ w.heap.size ≤ g ∧
    Blk wa g 5 ((List.replicate n 0).map u8) := by
  refine ⟨w.heap.size, _, run_make_row (z := .int .u8 0) rfl Tryz.underlying23 info_u8 (by omega) n n (Nat.le_refl _) hn w, (Mod.refl _ _).alloc _, Nat.le_refl _, ?_⟩
  have := Blk.new w 5 (List.replicate n (.int .u8 0))
  rw [List.map_replicate]
  exact this

/-- A byte's value, by a name that the walk does not take. -/
abbrev byteV (n : Nat) : Value := u8 n

set_option maxRecDepth 100000 in
set_option maxHeartbeats 2000000 in
theorem c_NatBytes (x p m y q k : Nat) (odd : Bool) (r : Value) (L R M Q : List Nat) (w : World) (h : NatIs w x p L R) (hm : MHead w m y odd k r) (hy : NatIs w y q M Q) (wL : Words L) (wM : Words M) (hfit : val L < 256 ^ ((blen (val M) + 7) / 8)) (hbl : blen (val M) ≤ 100000) :
    Calls Tryz.prog 60 #[ptr x, ptr m] w fun e w' => ∃ b O, e = .returned (sl b 0 O.length O.length) ∧ Mod [] w w' ∧ Blk w' b 5 (O.map u8) ∧ w.heap.size ≤ b ∧ O.length = (blen (val M) + 7) / 8 ∧ Bytes O ∧ bval O = val L := by
  obtain ⟨n, hn⟩ : ∃ n, n = (blen (val M) + 7) / 8 := ⟨_, rfl⟩
  have C := hide (c_ModSize m y q k odd r M Q w hm hy wM)
  have hn2 : n ≤ 20000 := by omega
  rw [← hn] at C hfit ⊢
  obtain ⟨g, wa, hmk, ma, hg, hba⟩ := made_u8' n (by omega) w
  have hcap := h.cap
  have ha := h.mod ma (by simp) (by simp)
  have hca := ha.cell
  have HF := hide hfit
  have hs0 := hide (NB.start L n)
  clear hn hfit hbl
  go_enter Tryz.func60, Tryz.ntmps60
  go_wp2_with fail
  refine C.out.mono ?_
  rintro e w' ⟨rfl, rfl⟩
  go_wp2_with fail
  go_loopw [5, 19] (fun iv kv wr => ∃ (z : Int) (kk : Nat) (O : List Nat), iv = .int .i64 z ∧ kv = i64 kk ∧ kk ≤ L.length ∧ -100001 ≤ z + kk ∧ Mod [] w wr ∧ Blk wr g 5 (O.map byteV) ∧ Hid ((∃ i : Nat, z = i ∧ NB L O n kk 0 i) ∨ (z < 0 ∧ n ≤ 8 * kk ∧ ∃ k' t', NB L O n k' t' 0))) (fun _ kv _ => L.length - (intOf kv).toNat)
  case atStart => exact ⟨n, 0, _, rfl, rfl, by omega, by omega, ma, hba, hide (.inl ⟨n, rfl, hs0.out⟩)⟩
  case round =>
    obtain ⟨z, kk, O, rfl, rfl, hk, hz, hmr, hO, hS⟩ := hrel
    have hx := h.mod hmr (by simp) (by simp)
    by_cases hlt : kk < L.length
    · have hcp := hx.at kk hlt
      obtain ⟨v0, hv0⟩ : ∃ v0, v0 = nth L kk := ⟨_, rfl⟩
      have hvW : v0 < W := by rw [hv0]; exact wL.nth kk
      rw [← hv0] at hcp
      have hlt' : (kk : Int) < (L.length : Int) := by omega
      rcases hS.out with ⟨i, rfl, hN⟩ | ⟨hz0, hn8, hD⟩
      · have HN0 := hide hN
        have hib : i ≤ 20000 := by have := hN.left; omega
        have HV0 := hide hv0
        clear hv0 hN hS hz
        go_wp2_with fail
        go_loopw [5, 8, 9] (fun iv lv jv wx => ∃ (i j v : Nat) (O : List Nat), iv = i64 i ∧ lv = u64 v ∧ jv = i64 j ∧ j ≤ 8 ∧ i ≤ 20000 ∧ v < W ∧ Hid (v = nth L kk / 256 ^ j) ∧ Mod [] w wx ∧ Blk wx g 5 (O.map byteV) ∧ Hid (NB L O n kk j i)) (fun _ _ jv _ => 8 - (intOf jv).toNat)
        case atStart => exact ⟨i, 0, v0, O, rfl, rfl, rfl, by omega, hib, hvW, hide (by rw [Nat.pow_zero, Nat.div_one]; exact HV0.out), hmr, hO, HN0⟩
        case round =>
          clear hmr hO HN0 hx hcp hib hvW HV0
          obtain ⟨i, j, v, O, rfl, rfl, rfl, hj, hib, hvW, hv, hmr, hO, hN⟩ := hrel
          by_cases hj8 : j < 8
          · have hj8' : (j : Int) < 8 := by omega
            cases i with
            | zero =>
              have hv0 : v = 0 := by rw [hv.out]; exact word_zero wL HF.out (by have := hN.out.left; omega)
              subst hv0
              clear hvW
              go_wp2_with fail
              go_roundw
              case rel => exact ⟨-1, kk + 1, O, rfl, by go_num, by omega, by omega, hmr, hO, hide (.inr ⟨by omega, by have := hN.out.left; omega, kk, j, hN.out⟩)⟩
              case measure => simp [intOf]; omega
            | succ i =>
              have ei : Hid (((i + 1 : Nat) : Int) - 1 = (i : Int)) := hide (by omega)
              have hOl := hN.out.len
              have hco := hO.at i (by have := hN.out.left; omega)
              have hfo := hO.frozen i
              have hin : (i : Int) < (n : Int) := by have := hN.out.left; omega
              obtain ⟨u, hu⟩ : ∃ u, u = v % 256 := ⟨_, rfl⟩
              obtain ⟨v2, hv2⟩ : ∃ v2, v2 = v / 256 := ⟨_, rfl⟩
              have wu : IntKind.u8.wrap (v : Int) = (u : Int) := by rw [IntKind.wrap_u8]; omega
              have ed : (v : Int) / 256 = (v2 : Int) := by omega
              have hN2 : Hid (NB L (O.set i u) n kk (j + 1) i) := hide (hN.out.next (by rw [hu, hv.out]; exact word_of wL kk j hj8))
              have hv3 : Hid (v2 = nth L kk / 256 ^ (j + 1)) := hide (by rw [hv2, hv.out, Nat.pow_succ, Nat.div_div_eq_div_mul])
              have hv4 : v2 < W := by omega
              have hm2 : Mod [] w (wr.setCell ⟨g, i, none⟩ (.int .u8 (u : Int))) := hmr.setCell _ _ (by simp; omega)
              have hO2 : Blk (wr.setCell ⟨g, i, none⟩ (.int .u8 (u : Int))) g 5 ((O.set i u).map byteV) := hO.set i u
              clear hu hv2 hN hv hOl
              go_wp2_with fail
              go_roundw
              case rel => exact ⟨i, j + 1, v2, _, by go_num, by first | rfl | go_num, by go_num, by omega, by omega, hv4, hv3, hm2, hO2, hN2⟩
              case measure => simp [intOf]; omega
          · obtain rfl : j = 8 := by omega
            clear hj8
            go_wp2_with fail
            go_roundw
            case rel => exact ⟨i, kk + 1, O, rfl, by go_num, by omega, by omega, hmr, hO, hide (.inl ⟨i, rfl, hN.out.word⟩)⟩
            case measure => simp [intOf]; omega
      · have hv1 : v0 = 0 := by
          have := word_zero wL HF.out (k := kk) (t := 0) (by omega)
          rw [Nat.pow_zero, Nat.div_one] at this
          rw [hv0]; exact this
        have HD := hide hD
        obtain ⟨z1, hz1⟩ : ∃ z1 : Int, z1 = z - 1 := ⟨_, rfl⟩
        have ez1 : z - 1 = z1 := hz1.symm
        have hz1n : z1 < 0 := by omega
        have hz1m : -200010 ≤ z1 := by omega
        have HZ := hide (show -100001 ≤ z1 + (kk + 1 : Nat) by omega)
        clear hv0 hD hS hz1
        rw [hv1] at hcp
        clear hv1 hvW
        go_wp2_with fail
        go_loop [5, 8, 9] (fun iv lv jv => iv = .int .i64 z ∧ lv = u64 0 ∧ jv = i64 0) (fun _ _ _ => 0)
        case atStart => exact ⟨rfl, rfl, rfl⟩
        case round =>
          obtain ⟨rfl, rfl, rfl⟩ := hrel
          go_wp2_with fail
          go_roundw
          case rel => exact ⟨z1, kk + 1, O, rfl, by go_num, by omega, HZ.out, hmr, hO, hide (.inr ⟨by omega, by omega, HD.out⟩)⟩
          case measure => simp [intOf]; omega
    · obtain rfl : kk = L.length := by omega
      have hfin : O.length = n ∧ Bytes O ∧ bval O = val L := by
        rcases hS.out with ⟨i, rfl, hN⟩ | ⟨hz0, hn8, k', t', hD⟩
        · refine ⟨hN.len, hN.bytes, hN.done ?_⟩
          have := val_lt wL
          rwa [Nat.add_zero, Nat.pow_mul, show (256 : Nat) ^ 8 = W by rw [W_eq]]
        · refine ⟨hD.len, hD.bytes, hD.done ?_⟩
          have := hD.left
          rw [show 8 * k' + t' = n by omega]; exact HF.out
      have HFIN := hide hfin
      have hfl : O.length = n := hfin.1
      clear hfin hS
      go_wp2_with fail
      go_ret
      exact ⟨g, O, by rw [HFIN.out.1]; rfl, hmr, hO, hg, HFIN.out.1, HFIN.out.2.1, HFIN.out.2.2⟩
end Go.Proofs.YtkhopfobjijnlaaGreatDoor
