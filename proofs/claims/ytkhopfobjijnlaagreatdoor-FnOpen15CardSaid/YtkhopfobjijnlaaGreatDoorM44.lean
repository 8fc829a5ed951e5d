/- impl's private. -/
import Derived.Test.YtkhopfobjijnlaaGreatDoorM43
set_option linter.all false
set_option exponentiation.threshold 7000000
namespace Go.Proofs.YtkhopfobjijnlaaGreatDoor
open Go.RowKit

theorem bval_odd {B : List Nat} (h : 0 < B.length) : bval B % 2 = nth B (B.length - 1) % 2 := by
  have e := bseg_add B B.length 1 (B.length - 1)
  rw [show 1 + (B.length - 1) = B.length by omega] at e
  show bseg B B.length B.length % 2 = _
  rw [e]
  simp only [bseg, Nat.sub_zero, Nat.pow_zero, Nat.pow_one, Nat.one_mul, Nat.zero_add]
  omega

theorem and_one_u8 {n : Nat} (h : n < 256) (ho : n % 2 = 1) : bits .and .u8 (n : Int) 1 = 1 := by
  have hx : n &&& 1 = n % 2 := Nat.and_one_is_mod n
  have h1 : (BitVec.ofInt 8 (n : Int)).toNat = n := by
    rw [BitVec.ofInt_natCast, BitVec.toNat_ofNat]; exact Nat.mod_eq_of_lt (by omega)
  have h2 : (BitVec.ofInt 8 (1 : Int)).toNat = 1 := by decide
  show IntKind.u8.wrap ((BitVec.ofInt 8 (n : Int) &&& BitVec.ofInt 8 (1 : Int)).toNat : Int) = _
  rw [BitVec.toNat_and, h1, h2, hx, ho]
  decide
/-- What the drawn region of private holds on to. -/
def KeyS (w : World) (k : Nat) (v0 v1 v2 v3 v4 : Value) (w' : World) : Prop := w'.cell? ⟨k, 0, none⟩ = some v0 ∧ w'.cell? ⟨k, 1, none⟩ = some v1 ∧ w'.cell? ⟨k, 2, none⟩ = some v2 ∧ w'.cell? ⟨k, 3, none⟩ = some v3 ∧ w'.cell? ⟨k, 4, none⟩ = some v4 ∧ Mod [] w w'
theorem KeyS.up {w w1 w2 : World} {k : Nat} {v0 v1 v2 v3 v4 : Value} (h : KeyS w k v0 v1 v2 v3 v4 w1) (m : Mod [] w1 w2) : KeyS w k v0 v1 v2 v3 v4 w2 :=
  ⟨cell_up h.1 m, cell_up h.2.1 m, cell_up h.2.2.1 m, cell_up h.2.2.2.1 m, cell_up h.2.2.2.2.1 m, h.2.2.2.2.2.then m⟩
theorem KeyS.m {w w1 : World} {k : Nat} {v0 v1 v2 v3 v4 : Value} (h : KeyS w k v0 v1 v2 v3 v4 w1) : Mod [] w w1 := h.2.2.2.2.2

set_option maxRecDepth 100000 in
set_option maxHeartbeats 16000000 in
theorem k_private (w : World) (vN vD vP vQ : Value) (BN BD BP BQ : List Nat) (en pv qv dv Nv : Nat) (gN : GotB w vN BN) (gD : GotB w vD BD) (gP : GotB w vP BP) (gQ : GotB w vQ BQ)
    (eN : bval BN = Nv) (eD : bval BD = dv) (eP : bval BP = pv) (eQ : bval BQ = qv) (lN : BN.length ≤ 512) (lP : BP.length ≤ 512) (lQ : BQ.length ≤ 512) (lD : BD.length ≤ 8 * wlen Nv) (lD2 : BD.length ≤ 512) (lD0 : 0 < BD.length) (lQ0 : 0 < BQ.length)
    (hNv : Nv = pv * qv) (bN : blen Nv ≤ 4000) (KL : KeyLaw pv qv en dv ((qv % pv) ^ (pv - 1 - 1) % pv)) :
    Calls Tryz.prog 16 #[.agg #[vN, .int .i64 en, vD, vP, vQ]] w fun e w' => ∃ k n d p q bP bQ qi EP EQ, e = .returned (.tuple #[ptr k, .bool true]) ∧ Mod [] w w' ∧ PrivAt w' k n en d p q pv qv dv ((qv % pv) ^ (pv - 1 - 1) % pv) Nv bP bQ qi EP EQ := by
  have C := hide (fun w' vN vD vP vQ gN gD gP gQ => k_NewPriv w' vN vD vP vQ BN BD BP BQ en pv qv dv Nv gN gD gP gQ eN eD eP eQ (by omega) (by omega) (by omega) lD lD0 hNv bN KL)
  have hodd := bval_odd lQ0
  rw [eQ, KL.qo] at hodd
  obtain ⟨aN, cN, rfl⟩ := SliceB.isSlice gN.1
  obtain ⟨aD, cD, rfl⟩ := SliceB.isSlice gD.1
  obtain ⟨aP, cP, rfl⟩ := SliceB.isSlice gP.1
  obtain ⟨b, o, c, rfl, hc, hcb⟩ : ∃ b o c, vQ = sl b o BQ.length c ∧ BQ.length ≤ c ∧ CellsB w b o BQ := by
    rcases gQ.1 with ⟨e, hB⟩ | ⟨a, c, e, hB⟩ | h
    · rw [hB] at lQ0; simp at lQ0
    · rw [hB] at lQ0; simp at lQ0
    · exact h
  have hA := Blk.new w 29 [.slice aN BN.length cN, .int .i64 en, .slice aD BD.length cD, .slice aP BP.length cP, sl b o BQ.length c]
  have m0 : Mod [] w (w.alloc (.cells #[.slice aN BN.length cN, .int .i64 en, .slice aD BD.length cD, .slice aP BP.length cP, sl b o BQ.length c] 29)) := (Mod.refl [] w).alloc _
  obtain ⟨T, hT⟩ : ∃ T, T = BQ.length - 1 := ⟨_, rfl⟩
  have hlast := cell_up (hcb T (by omega)) m0
  have g1 : ¬ (512 : Int) < (BN.length : Int) := by omega
  have g2 : ¬ (512 : Int) < (BD.length : Int) := by omega
  have g3 : ¬ (512 : Int) < (BP.length : Int) := by omega
  have g4 : ¬ (512 : Int) < (BQ.length : Int) := by omega
  have g5 : ¬ (BQ.length : Int) = 0 := by omega
  have e5 : ((BQ.length : Int) == 0) = false := by rw [beq_eq_false_iff_ne]; exact g5
  have eT : (BQ.length : Int) - 1 = (T : Int) := by omega
  have eTw : IntKind.i64.wrap (T : Int) = (T : Int) := IntWalk.i64_in _ (by omega)
  have eTw2 : IntKind.i64.wrap ((BQ.length : Int) - 1) = (T : Int) := by rw [eT]; exact eTw
  have gT : (T : Int) < (BQ.length : Int) := by omega
  have gT2 : T < BQ.length := by omega
  have hand := and_one_u8 (gQ.2.1 T) (by rw [hT]; exact hodd.symm)
  have hS0 : Hid (KeyS w w.heap.size (.slice aN BN.length cN) (.int .i64 en) (.slice aD BD.length cD) (.slice aP BP.length cP) (sl b o BQ.length c) (w.alloc (.cells #[.slice aN BN.length cN, .int .i64 en, .slice aD BD.length cD, .slice aP BP.length cP, sl b o BQ.length c] 29))) := hide ⟨by rw [hA.cell]; rfl, by rw [hA.cell]; rfl, by rw [hA.cell]; rfl, by rw [hA.cell]; rfl, by rw [hA.cell]; rfl, m0⟩
  clear eN eD eP eQ lD lD0 hNv bN KL hodd hT
  go_enter Tryz.func16, Tryz.ntmps16
  go_wp2_with fail
  go_region_held3 (fun w' => w'.cell? ⟨w.heap.size, 0, none⟩ = some (.slice aN BN.length cN) ∧ w'.cell? ⟨w.heap.size, 1, none⟩ = some (.int .i64 en) ∧ w'.cell? ⟨w.heap.size, 2, none⟩ = some (.slice aD BD.length cD) ∧ w'.cell? ⟨w.heap.size, 3, none⟩ = some (.slice aP BP.length cP) ∧ w'.cell? ⟨w.heap.size, 4, none⟩ = some (sl b o BQ.length c) ∧ Mod [] w w')
    (first | exact hS5 | exact hS4 | exact hS3 | exact hS2 | exact hS1 | exact hS0.out.up ((Mod.refl [] _).drew))
    (first | (go_at_call_of 20 (Value.slice aN BN.length cN); have hx : KeyS w w.heap.size (.slice aN BN.length cN) (.int .i64 en) (.slice aD BD.length cD) (.slice aP BP.length cP) (sl b o BQ.length c) _ := (by assumption); refine (c_copied _ BN _ (GotB.mod gN hx.m).1 (by omega)).mono ?_; rintro e w1 ⟨x1, rfl, mA, s1, f1⟩; have hS1 : KeyS w w.heap.size (.slice aN BN.length cN) (.int .i64 en) (.slice aD BD.length cD) (.slice aP BP.length cP) (sl b o BQ.length c) w1 := hx.up mA; have G1 : GotB w1 x1 BN := ⟨s1, gN.2.1, fun _ _ _ _ e => (f1 _ _ _ _ e).2⟩; clear mA) | (go_at_call_of 20 (Value.slice aD BD.length cD); have hx : KeyS w w.heap.size (.slice aN BN.length cN) (.int .i64 en) (.slice aD BD.length cD) (.slice aP BP.length cP) (sl b o BQ.length c) _ := (by assumption); refine (c_copied _ BD _ (GotB.mod gD hx.m).1 (by omega)).mono ?_; rintro e w2 ⟨x2, rfl, mA, s2, f2⟩; have hS2 : KeyS w w.heap.size (.slice aN BN.length cN) (.int .i64 en) (.slice aD BD.length cD) (.slice aP BP.length cP) (sl b o BQ.length c) w2 := hx.up mA; have G2 : GotB w2 x2 BD := ⟨s2, gD.2.1, fun _ _ _ _ e => (f2 _ _ _ _ e).2⟩; replace G1 := G1.mod mA; clear mA) | (go_at_call_of 20 (Value.slice aP BP.length cP); have hx : KeyS w w.heap.size (.slice aN BN.length cN) (.int .i64 en) (.slice aD BD.length cD) (.slice aP BP.length cP) (sl b o BQ.length c) _ := (by assumption); refine (c_copied _ BP _ (GotB.mod gP hx.m).1 (by omega)).mono ?_; rintro e w3 ⟨x3, rfl, mA, s3, f3⟩; have hS3 : KeyS w w.heap.size (.slice aN BN.length cN) (.int .i64 en) (.slice aD BD.length cD) (.slice aP BP.length cP) (sl b o BQ.length c) w3 := hx.up mA; have G3 : GotB w3 x3 BP := ⟨s3, gP.2.1, fun _ _ _ _ e => (f3 _ _ _ _ e).2⟩; replace G1 := G1.mod mA; replace G2 := G2.mod mA; clear mA) | (go_at_call_of 20 (sl b o BQ.length c); have hx : KeyS w w.heap.size (.slice aN BN.length cN) (.int .i64 en) (.slice aD BD.length cD) (.slice aP BP.length cP) (sl b o BQ.length c) _ := (by assumption); refine (c_copied _ BQ _ (GotB.mod gQ hx.m).1 (by omega)).mono ?_; rintro e w4 ⟨x4, rfl, mA, s4, f4⟩; have hS4 : KeyS w w.heap.size (.slice aN BN.length cN) (.int .i64 en) (.slice aD BD.length cD) (.slice aP BP.length cP) (sl b o BQ.length c) w4 := hx.up mA; have G4 : GotB w4 x4 BQ := ⟨s4, gQ.2.1, fun _ _ _ _ e => (f4 _ _ _ _ e).2⟩; replace G1 := G1.mod mA; replace G2 := G2.mod mA; replace G3 := G3.mod mA; clear mA) | (go_at_call 37; refine (C.out _ _ _ _ _ G1 G2 G3 G4).mono ?_; rintro e w5 ⟨k, n, d, p, q, bP, bQ, qi, EP, EQ, rfl, m5, A⟩; have hS5 : KeyS w w.heap.size (.slice aN BN.length cN) (.int .i64 en) (.slice aD BD.length cD) (.slice aP BP.length cP) (sl b o BQ.length c) w5 := hS4.up m5))
  go_wp2_with fail
  go_quiet (fail)
  go_wp2_with fail
  go_ret2
  exact ⟨k, n, d, p, q, bP, bQ, qi, EP, EQ, rfl, hS5.m.drewN _, A.up ((Mod.refl [] _).drewN _)⟩
end Go.Proofs.YtkhopfobjijnlaaGreatDoor
