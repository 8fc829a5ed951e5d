/- laws.FnOpen15. -/
import Derived.Test.YtkhopfobjijnlaaGreatDoorM45
import Derived.Test.YtkhopfobjijnlaaGreatDoorM46
set_option linter.all false
set_option exponentiation.threshold 7000000
namespace Go.Proofs.YtkhopfobjijnlaaGreatDoor
open Go.RowKit

set_option maxRecDepth 100000 in
theorem c_Decoded_nil (w : World) : Calls Tryz.prog 7 #[.slice none 0 0] w fun e w' => w = w' ∧ e = .returned (.tuple #[.slice none 0 0, .bool false]) := by
  go_enter Tryz.func7, Tryz.ntmps7
  go_wp2_with fail
  go_ret2
  exact ⟨rfl, rfl⟩

/-- What the key's parts give to the call. -/
theorem okey_of {w : World} {i j e : Nat} {E : Int} {N D P Q : Nat} {uN uD uP uQ : Value} {BN BD BP BQ : List Nat} (hi : i < 10) (hj : j < 10) (eo : e % 2 = 1) (eb : e ≤ 2147483647) (hk : KeyOk i j e E N D P Q)
    (hN : ByV w uN BN ∧ BN.length = (blen N + 7) / 8 ∧ bval BN = N) (hD : ByV w uD BD ∧ BD.length = (blen D + 7) / 8 ∧ bval BD = D) (hP : ByV w uP BP ∧ BP.length = (blen P + 7) / 8 ∧ bval BP = P) (hQ : ByV w uQ BQ ∧ BQ.length = (blen Q + 7) / 8 ∧ bval BQ = Q) :
    E = (e : Int) ∧ OKey w uN uD uP uQ BN BD BP BQ e P Q D N ∧ (∀ c, crtM c P Q D ((Q % P) ^ (P - 1 - 1) % P) N = c ^ D % N) ∧ D < N := by
  obtain ⟨h1, h2, rfl, rfl, rfl, rfl, h7, h8⟩ := hk
  have F := key_facts hi hj h1 h2 eo eb h7 h8
  generalize nth prs i = P at *
  generalize nth prs j = Q at *
  have hdl : D < P * Q := F.kl.dlt
  have b1 := F.bN
  have b2 := F.bN2
  have b3 := F.bp
  have b4 := F.bq
  have b5 := blen_mono (Nat.le_of_lt hdl)
  have p3 := F.kl.p3
  have q3 := F.kl.q3
  refine ⟨rfl, ⟨hN.1, hD.1, hP.1, hQ.1, hN.2.2, hD.2.2, hP.2.2, hQ.2.2, by rw [hN.2.1]; omega, by rw [hP.2.1]; omega, by rw [hQ.2.1]; omega, by rw [hD.2.1]; exact fit_le (Nat.le_of_lt hdl), by rw [hD.2.1]; omega, by rw [hD.2.1]; exact size_pos F.d0, by rw [hQ.2.1]; exact size_pos (by omega), rfl, by omega, by omega, F.kl⟩, F.law, hdl⟩

set_option maxRecDepth 100000 in
set_option maxHeartbeats 8000000 in
theorem c_FnOpen15 (pb qb eb : Nat) (vC : Value) (C : List Nat) (w : World) (T : Nat) (x : Value) (hp : pb < 256) (hq : qb < 256) (he : eb < 4294967296) (hC : ByV w vC C) (hG : w.cell? ⟨0, 0, none⟩ = some (.iface T x)) :
    Calls Tryz.prog 3 #[.int .u8 pb, .int .u8 qb, .int .u32 eb, vC] w fun r w' => r = .returned (.bool true) ∧ Mod [] w w' := by
  obtain ⟨ac, cc, rfl⟩ := SliceB.isSlice hC.1
  by_cases hbig : C.length ≤ 2147483647
  · have g0 : decide ((2147483647 : Int) < (C.length : Int)) = false := decide_eq_false (by omega)
    have C1 := hide (fun w' => c_keyOf pb qb eb w' hp hq he)
    have HC := hide hC
    clear hbig hp hq he hC
    go_enter Tryz.func3, Tryz.ntmps3
    go_wp2_with fail
    refine (C1.out _).mono ?_
    rintro r w1 ⟨m1, e, vN, vD, vP, vQ, E, N, D, P, Q, ok, uN, uD, uP, uQ, BN, BD, BP, BQ, hb, ho, rfl, hV, hok, hN, hD, hP, hQ⟩
    obtain ⟨a1, k1, c1, rfl⟩ := hV.n.lit
    obtain ⟨a2, k2, c2, rfl⟩ := hV.d.lit
    obtain ⟨a3, k3, c3, rfl⟩ := hV.p.lit
    obtain ⟨a4, k4, c4, rfl⟩ := hV.q.lit
    obtain ⟨a5, c5, rfl⟩ := SliceB.isSlice hN.1.1
    obtain ⟨a6, c6, rfl⟩ := SliceB.isSlice hD.1.1
    obtain ⟨a7, c7, rfl⟩ := SliceB.isSlice hP.1.1
    obtain ⟨a8, c8, rfl⟩ := SliceB.isSlice hQ.1.1
    have HH := hide (And.intro hb (And.intro ho (And.intro hok (And.intro hN (And.intro hD (And.intro hP hQ))))))
    have HV := hide hV
    clear hb ho hok hN hD hP hQ hV
    obtain ⟨W, hW⟩ : ∃ W, W = (w1.alloc (.cells #[.slice a1 k1 c1, .slice a2 k2 c2, .slice a3 k3 c3, .slice a4 k4 c4, .int .i64 E] 27)).alloc (.cells #[.slice a5 BN.length c5, .int .i64 E, .slice a6 BD.length c6, .slice a7 BP.length c7, .slice a8 BQ.length c8] 29) := ⟨_, rfl⟩
    have B9 : Blk W w1.heap.size 27 [.slice a1 k1 c1, .slice a2 k2 c2, .slice a3 k3 c3, .slice a4 k4 c4, .int .i64 E] := by rw [hW]; exact (Blk.new w1 _ _).alloc _
    have B10 : Blk W (w1.heap.size + 1) 29 [.slice a5 BN.length c5, .int .i64 E, .slice a6 BD.length c6, .slice a7 BP.length c7, .slice a8 BQ.length c8] := by rw [hW]; have := Blk.new (w1.alloc (.cells #[.slice a1 k1 c1, .slice a2 k2 c2, .slice a3 k3 c3, .slice a4 k4 c4, .int .i64 E] 27)) 29 [.slice a5 BN.length c5, .int .i64 E, .slice a6 BD.length c6, .slice a7 BP.length c7, .slice a8 BQ.length c8]; rw [World.size_alloc] at this; exact this
    have m1W : Mod [] w1 W := by rw [hW]; exact ((Mod.refl [] _).alloc _).alloc _
    have mW := m1.then m1W
    have d0 : W.cell? ⟨w1.heap.size, 0, none⟩ = some (.slice a1 k1 c1) := by rw [B9.cell]; rfl
    have d1 : W.cell? ⟨w1.heap.size, 1, none⟩ = some (.slice a2 k2 c2) := by rw [B9.cell]; rfl
    have d2 : W.cell? ⟨w1.heap.size, 2, none⟩ = some (.slice a3 k3 c3) := by rw [B9.cell]; rfl
    have d3 : W.cell? ⟨w1.heap.size, 3, none⟩ = some (.slice a4 k4 c4) := by rw [B9.cell]; rfl
    have d4 : W.cell? ⟨w1.heap.size, 4, none⟩ = some (.int .i64 E) := by rw [B9.cell]; rfl
    have b0 : W.cell? ⟨w1.heap.size + 1, 0, none⟩ = some (.slice a5 BN.length c5) := by rw [B10.cell]; rfl
    have b1 : W.cell? ⟨w1.heap.size + 1, 1, none⟩ = some (.int .i64 E) := by rw [B10.cell]; rfl
    have b2 : W.cell? ⟨w1.heap.size + 1, 2, none⟩ = some (.slice a6 BD.length c6) := by rw [B10.cell]; rfl
    have b3 : W.cell? ⟨w1.heap.size + 1, 3, none⟩ = some (.slice a7 BP.length c7) := by rw [B10.cell]; rfl
    have b4 : W.cell? ⟨w1.heap.size + 1, 4, none⟩ = some (.slice a8 BQ.length c8) := by rw [B10.cell]; rfl
    have HW := hide hW
    clear hW B9 B10
    go_upto_region 4 with fail
    rw [← HW.out]
    cases ok
    · go_wp2_with fail
      go_ret
      exact ⟨rfl, mW⟩
    · obtain ⟨hb, ho, hok, hN, hD, hP, hQ⟩ := HH.out
      obtain ⟨hE, O, law, hDN⟩ := okey_of (Nat.mod_lt _ (by omega)) (Nat.mod_lt _ (by omega)) ho hb (hok rfl) hN hD hP hQ
      subst hE
      have n0 : N ≠ 0 := by omega
      have HO := hide (O.up m1W)
      have HLaw := hide law
      have HDN := hide hDN
      have HN0 := hide n0
      have CL := hide (fun w' (m : Mod [] w1 w') => n_Length _ N w' (HV.out.n.mod m) (NatV.lim4000 HV.out.bN))
      obtain ⟨L, hL⟩ : ∃ L, L = (blen N + 7) / 8 := ⟨_, rfl⟩
      rw [← hL] at CL
      have HL := hide hL
      clear hb ho hok hN hD hP hQ O law hDN n0 hL
      go_wp2_with fail
      refine (CL.out _ m1W).mono ?_
      rintro r w2 ⟨rfl, m2⟩
      have m02 := mW.then m2
      by_cases hl : C.length = L
      · subst hl
        have HCL : Hid (C.length = (blen N + 7) / 8) := HL
        have c11 : 11 ≤ C.length := by have h1 := HL.out; have h2 := HO.out.bN2; omega
        have c1024 : C.length ≤ 1024 := by have h1 := HL.out; have h2 := HO.out.bN; omega
        have MM := m2
        have d0 := cell_up d0 MM
        have d1 := cell_up d1 MM
        have d2 := cell_up d2 MM
        have d3 := cell_up d3 MM
        have d4 := cell_up d4 MM
        have b0 := cell_up b0 MM
        have b1 := cell_up b1 MM
        have b2 := cell_up b2 MM
        have b3 := cell_up b3 MM
        have b4 := cell_up b4 MM
        go_wp2_with fail
        refine (c_Opened _ _ _ _ _ C D N _ _ (HC.out.mod m02) (HV.out.d.mod (m1W.then m2)) (HV.out.n.mod (m1W.then m2)) HCL.out (NatV.lim4000 HV.out.bD) HV.out.bN HN0.out).mono ?_
        rintro r w3 ⟨m3, h3⟩
        have m03 := m02.then m3
        have m13 := (m1W.then m2).then m3
        have MM := m3
        have b0 := cell_up b0 MM
        have b1 := cell_up b1 MM
        have b2 := cell_up b2 MM
        have b3 := cell_up b3 MM
        have b4 := cell_up b4 MM
        have HOp := hide (fun w' (mm : Mod [] W w') (mg : Mod [] w w') => k_Open15 w' _ _ _ _ BN BD BP BQ e P Q D N T x (HO.out.up mm) _ C (HC.out.mod mg) HCL.out (cell_up hG mg))
        rcases h3 with ⟨hlt, v3, B, rfl, y3, l3, e3⟩ | ⟨hge, rfl⟩
        · have HLT := hide hlt
          have hl11 : 11 ≤ B.length := by rw [l3, ← HCL.out]; exact c11
          have hl1024 : B.length ≤ 100000 := by rw [l3, ← HCL.out]; omega
          obtain ⟨a9, c9, rfl⟩ := SliceB.isSlice y3.1
          have CD := hide (c_Decoded _ B w3 y3 hl11 hl1024)
          have E3 := hide e3
          have L3 := hide l3
          have Y3 := hide y3
          clear hlt e3 l3 hl11 hl1024 y3
          go_wp2_with fail
          refine CD.out.mono ?_
          rintro r w' ⟨rfl, vd, rfl, hd⟩
          have HDd := hide hd
          clear hd
          go_wp2_with fail
          refine (HOp.out _ (m2.then m3) m03).mono ?_
          rintro r w4 ⟨vo, B', m4, l4, y4, e4, h4⟩
          have hBB : B' = B := bval_inj y4 Y3.out.2.1 (by rw [l4, L3.out]) (by rw [e4, HLaw.out, E3.out])
          subst hBB
          have m04 := m03.then m4
          by_cases hpad : pad15 B' = true
          · rw [if_pos ⟨HLT.out, hpad⟩] at h4
            obtain ⟨rfl, s4⟩ := h4
            have CE := hide (c_BytesEq vo vd _ w4 s4 ((HDd.out hpad).mod m4 (by simp)))
            rw [hpad]
            clear hpad s4 e4 l4
            go_wp2_with fail
            refine CE.out.mono ?_
            rintro r w' ⟨rfl, rfl⟩
            go_wp2_with fail
            refine (c_alive _).mono ?_
            rintro r w5 ⟨rfl, m5⟩
            have m05 := m04.then m5
            go_wp2_with fail
            go_ret
            exact ⟨rfl, m05⟩
          · rw [if_neg (fun h => hpad h.2)] at h4
            subst h4
            rw [(by simpa using hpad : pad15 B' = false)]
            clear hpad e4 l4
            go_wp2_with fail
            refine (c_alive _).mono ?_
            rintro r w5 ⟨rfl, m5⟩
            have m05 := m04.then m5
            go_wp2_with fail
            go_ret
            exact ⟨rfl, m05⟩
        · have HGE := hide hge
          clear hge
          go_wp2_with fail
          refine (c_Decoded_nil _).mono ?_
          rintro r w' ⟨rfl, rfl⟩
          go_wp2_with fail
          refine (HOp.out _ (m2.then m3) m03).mono ?_
          rintro r w4 ⟨vo, B', m4, l4, y4, e4, h4⟩
          have m04 := m03.then m4
          rw [if_neg (fun h => by have h1 := h.1; have h2 := HGE.out; omega)] at h4
          subst h4
          clear e4 l4
          go_wp2_with fail
          refine (c_alive _).mono ?_
          rintro r w5 ⟨rfl, m5⟩
          have m05 := m04.then m5
          go_wp2_with fail
          go_ret
          exact ⟨rfl, m05⟩
      · have hne : ((C.length : Int) == (L : Int)) = false := by rw [beq_eq_false_iff_ne]; omega
        have hne2 : ((C.length : Int) != (L : Int)) = true := by simp; omega
        clear hl
        go_wp2_with fail
        go_ret
        exact ⟨rfl, m02⟩
  · have g0 : (2147483647 : Int) < (C.length : Int) := by omega
    have g1 : decide ((2147483647 : Int) < (C.length : Int)) = true := decide_eq_true g0
    clear hbig g0 hp hq he hC
    go_enter Tryz.func3, Tryz.ntmps3
    go_wp2_with fail
    go_ret
    exact ⟨rfl, Mod.refl _ _⟩
end Go.Proofs.YtkhopfobjijnlaaGreatDoor
