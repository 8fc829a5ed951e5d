/- impl's Open15. bytes.Equal of the same bytes. laws.alive (for the seat that has no FnKey). -/
import Derived.Test.YtkhopfobjijnlaaGreatDoorM44
import Derived.Test.YtkhopfobjijnlaaGreatDoorM38
import Derived.Test.YtkhopfobjijnlaaGreatDoorM41
import Derived.Test.YtkhopfobjijnlaaGreatDoorM08
import Derived.Shelf.Bytes.SlSmallAll
import Derived.Test.YtkhopfobjijnlaaGreatDoorM12
set_option linter.all false
set_option exponentiation.threshold 7000000
namespace Go.Proofs.YtkhopfobjijnlaaGreatDoor
open Go.RowKit

set_option maxRecDepth 100000 in
set_option maxHeartbeats 4000000 in
theorem k_decrypt_bad (w : World) (k n en d p q pv qv dv iv Nv bP bQ qi T : Nat) (x : Value) (EP EQ : List Nat) (A : PrivAt w k n en d p q pv qv dv iv Nv bP bQ qi EP EQ) (vC : Value) (BC : List Nat) (gC : GotB w vC BC) (lC : BC.length = (blen Nv + 7) / 8) (hc : Nv ≤ bval BC)
    (hG : w.cell? ⟨0, 0, none⟩ = some (.iface T x)) (N1 : 1 < Nv) :
    Calls Tryz.prog 39 #[ptr k, vC, .bool false] w fun e w' => e = .returned (.tuple #[.slice none 0 0, .iface T x]) ∧ Mod [] w w' := by
  have h0C : 0 < BC.length := by rw [lC]; exact size_pos (by omega)
  have lC8 : BC.length ≤ 8 * wlen Nv := by rw [lC]; exact fit_le (Nat.le_refl _)
  obtain ⟨⟨fl, hk⟩, hn, hp, hq, hi, rP, rQ, yP, yQ, eP, eQ, lP, lQ⟩ := A
  have k0 := PKey.c0 hk
  have k1 := PKey.c1 hk
  have HC := hide hc
  clear lC hp hq hi rP rQ yP yQ eP eQ lP lQ hc
  go_enter Tryz.func39, Tryz.ntmps39
  go_wp2_with fail
  go_quiet (fail)
  clear k0 k1
  obtain ⟨w1, hw1⟩ : ∃ w1, w1 = w.drewN nq := ⟨_, rfl⟩
  have m01 : Mod [] w w1 := by rw [hw1]; exact (Mod.refl [] w).drewN _
  rw [← hw1]
  clear hw1
  go_wp2_with fail
  refine (k_New _).mono ?_
  rintro e v1 ⟨x1, rfl, mm, n1⟩
  have b1 := m01.then mm
  replace n1 := n1.mono m01.size
  go_wp2_with fail
  refine (k_SetBytes_bad _ _ x1 _ _ n _ vC BC n1 (hn.mod b1) (gC.mod b1) (ApartN.old gC n1) (MSep.base b1 hn n1) lC8 h0C HC.out b1.size).mono ?_
  rintro e v2 ⟨er, rfl, hm⟩
  have m2 := hm w rfl b1
  have cg := cell_up hG m2
  go_wp2_with fail
  go_quiet (fail)
  go_wp2_with fail
  go_ret2
  exact ⟨rfl, m2.drewN _⟩

set_option maxRecDepth 100000 in
theorem k_DWC (w : World) (k : Nat) (vC : Value) (Q : Ending → World → Prop) (h : Calls Tryz.prog 39 #[ptr k, vC, .bool false] w fun e w' => ∃ u v, e = .returned (.tuple #[u, v]) ∧ Q e w') :
    Calls Tryz.prog 19 #[ptr k, vC] w Q := by
  have H := hide h
  clear h
  go_enter Tryz.func19, Tryz.ntmps19
  go_wp2_with fail
  refine H.out.mono ?_
  rintro e w1 ⟨u, v, rfl, hq⟩
  have HQ := hide hq
  clear hq
  go_wp2_with fail
  exact HQ.out
set_option maxRecDepth 100000 in
theorem k_PublicKey (w : World) (k : Nat) : Calls Tryz.prog 17 #[ptr k] w fun e w' => e = .returned (ptr k) ∧ w = w' := by
  go_enter Tryz.func17, Tryz.ntmps17
  go_wp2_with fail
  go_ret
  exact ⟨rfl, rfl⟩
set_option maxRecDepth 100000 in
theorem k_PSize (w : World) (k n Nv : Nat) (hc : w.cell? ⟨k, 0, none⟩ = some (ptr n)) (hn : MdAt w n Nv) (bN : blen Nv ≤ 4000) : Calls Tryz.prog 18 #[ptr k] w fun e w' => e = .returned (i64 ((blen Nv + 7) / 8)) ∧ w = w' := by
  obtain ⟨b, hb⟩ : ∃ b, b = blen Nv := ⟨_, rfl⟩
  obtain ⟨r, hr⟩ : ∃ r, r = (b + 7) / 8 := ⟨_, rfl⟩
  have HB := hide hb
  rw [← hb, ← hr]
  rw [← hb] at bN
  have e0 : ((b : Int) + 7).tdiv 8 = (r : Int) := by rw [hr]; rfl
  have e2 : ((b : Int) + 7) / 8 = (r : Int) := by omega
  have e1 : IntKind.i64.wrap ((b : Int) + 7) = (b : Int) + 7 := IntWalk.i64_in _ (by omega)
  have e3 : IntKind.i64.wrap (r : Int) = (r : Int) := IntWalk.i64_in _ (by omega)
  clear hb hr
  go_enter Tryz.func18, Tryz.ntmps18
  go_wp2_with fail
  refine (k_BitLen _ n _ hn).mono ?_
  rintro e w' ⟨rfl, rfl⟩
  rw [← HB.out]
  go_wp2_with fail
  go_ret
  exact ⟨rfl, rfl⟩

/-- A number in so many bytes. -/
theorem bytes_of (n v : Nat) (hv : v < 256 ^ n) : ∃ B : List Nat, B.length = n ∧ Bytes B ∧ bval B = v := by
  have hl : ((List.range n).map (fun i => v / 256 ^ (n - 1 - i) % 256)).length = n := by simp
  have hnth : ∀ j, j < n → nth ((List.range n).map (fun i => v / 256 ^ (n - 1 - i) % 256)) j = v / 256 ^ (n - 1 - j) % 256 := by
    intro j hj
    rw [nth_eq _ _ (by simpa using hj)]
    simp
  refine ⟨(List.range n).map (fun i => v / 256 ^ (n - 1 - i) % 256), hl, ?_, ?_⟩
  · intro i
    rcases Nat.lt_or_ge i n with h | h
    · rw [hnth i h]; exact Nat.mod_lt _ (by omega)
    · rw [nth_ge (by simpa using h)]; omega
  · have key : ∀ m, m ≤ n → bseg ((List.range n).map (fun i => v / 256 ^ (n - 1 - i) % 256)) n m = v % 256 ^ m := by
      intro m
      induction m with
      | zero => intro _; simp [bseg, Nat.mod_one]
      | succ m ih =>
        intro hm
        rw [bseg, ih (by omega), hnth _ (by omega), Nat.pow_succ, Nat.mod_mul, show n - 1 - (n - 1 - m) = m by omega]
    unfold bval
    rw [hl, key n (Nat.le_refl _), Nat.mod_eq_of_lt hv]
/-- What is known of a key of two primes, and of its parts' bytes. -/
structure OKey (w : World) (vN vD vP vQ : Value) (BN BD BP BQ : List Nat) (en pv qv dv Nv : Nat) : Prop where
  gN : GotB w vN BN
  gD : GotB w vD BD
  gP : GotB w vP BP
  gQ : GotB w vQ BQ
  eN : bval BN = Nv
  eD : bval BD = dv
  eP : bval BP = pv
  eQ : bval BQ = qv
  lN : BN.length ≤ 512
  lP : BP.length ≤ 512
  lQ : BQ.length ≤ 512
  lD : BD.length ≤ 8 * wlen Nv
  lD2 : BD.length ≤ 512
  lD0 : 0 < BD.length
  lQ0 : 0 < BQ.length
  hNv : Nv = pv * qv
  bN : blen Nv ≤ 4000
  bN2 : 88 ≤ blen Nv
  kl : KeyLaw pv qv en dv ((qv % pv) ^ (pv - 1 - 1) % pv)
theorem OKey.up {w w' : World} {vN vD vP vQ : Value} {BN BD BP BQ : List Nat} {en pv qv dv Nv : Nat} (h : OKey w vN vD vP vQ BN BD BP BQ en pv qv dv Nv) (m : Mod [] w w') : OKey w' vN vD vP vQ BN BD BP BQ en pv qv dv Nv := by
  exact { h with gN := h.gN.mod m, gD := h.gD.mod m, gP := h.gP.mod m, gQ := h.gQ.mod m }

set_option maxRecDepth 100000 in
set_option maxHeartbeats 4000000 in
theorem k_Open15 (w : World) (vN vD vP vQ : Value) (BN BD BP BQ : List Nat) (en pv qv dv Nv T : Nat) (x : Value) (O : OKey w vN vD vP vQ BN BD BP BQ en pv qv dv Nv) (vC : Value) (BC : List Nat) (gC : GotB w vC BC) (lC : BC.length = (blen Nv + 7) / 8)
    (hG : w.cell? ⟨0, 0, none⟩ = some (.iface T x)) :
    Calls Tryz.prog 8 #[.agg #[vN, .int .i64 en, vD, vP, vQ], vC] w fun e w' => ∃ v B, Mod [] w w' ∧ B.length = (blen Nv + 7) / 8 ∧ Bytes B ∧ bval B = crtM (bval BC) pv qv dv ((qv % pv) ^ (pv - 1 - 1) % pv) Nv ∧
      if bval BC < Nv ∧ pad15 B = true then e = .returned (.tuple #[v, .bool true]) ∧ SliceB w' v (B.drop (zpos B + 1)) else e = .returned (.tuple #[.slice none 0 0, .bool false]) := by
  obtain ⟨aN, cN, rfl⟩ := SliceB.isSlice O.gN.1
  obtain ⟨aD, cD, rfl⟩ := SliceB.isSlice O.gD.1
  obtain ⟨aP, cP, rfl⟩ := SliceB.isSlice O.gP.1
  obtain ⟨aQ, cQ, rfl⟩ := SliceB.isSlice O.gQ.1
  obtain ⟨aC, cC, rfl⟩ := SliceB.isSlice gC.1
  have C1 := hide (fun w' (m : Mod [] w w') => k_private w' _ _ _ _ BN BD BP BQ en pv qv dv Nv (O.gN.mod m) (O.gD.mod m) (O.gP.mod m) (O.gQ.mod m) O.eN O.eD O.eP O.eQ O.lN O.lP O.lQ O.lD O.lD2 O.lD0 O.lQ0 O.hNv O.bN O.kl)
  have HO := hide O
  have hA := Blk.new w 29 [.slice aN BN.length cN, .int .i64 en, .slice aD BD.length cD, .slice aP BP.length cP, .slice aQ BQ.length cQ]
  have m0 : Mod [] w (w.alloc (.cells #[.slice aN BN.length cN, .int .i64 en, .slice aD BD.length cD, .slice aP BP.length cP, .slice aQ BQ.length cQ] 29)) := (Mod.refl [] w).alloc _
  have q0 : (w.alloc (.cells #[.slice aN BN.length cN, .int .i64 en, .slice aD BD.length cD, .slice aP BP.length cP, .slice aQ BQ.length cQ] 29)).cell? ⟨w.heap.size, 0, none⟩ = some (.slice aN BN.length cN) := by rw [hA.cell]; rfl
  have q1 : (w.alloc (.cells #[.slice aN BN.length cN, .int .i64 en, .slice aD BD.length cD, .slice aP BP.length cP, .slice aQ BQ.length cQ] 29)).cell? ⟨w.heap.size, 1, none⟩ = some (.int .i64 en) := by rw [hA.cell]; rfl
  have q2 : (w.alloc (.cells #[.slice aN BN.length cN, .int .i64 en, .slice aD BD.length cD, .slice aP BP.length cP, .slice aQ BQ.length cQ] 29)).cell? ⟨w.heap.size, 2, none⟩ = some (.slice aD BD.length cD) := by rw [hA.cell]; rfl
  have q3 : (w.alloc (.cells #[.slice aN BN.length cN, .int .i64 en, .slice aD BD.length cD, .slice aP BP.length cP, .slice aQ BQ.length cQ] 29)).cell? ⟨w.heap.size, 3, none⟩ = some (.slice aP BP.length cP) := by rw [hA.cell]; rfl
  have q4 : (w.alloc (.cells #[.slice aN BN.length cN, .int .i64 en, .slice aD BD.length cD, .slice aP BP.length cP, .slice aQ BQ.length cQ] 29)).cell? ⟨w.heap.size, 4, none⟩ = some (.slice aQ BQ.length cQ) := by rw [hA.cell]; rfl
  obtain ⟨L, hL⟩ : ∃ L, L = (blen Nv + 7) / 8 := ⟨_, rfl⟩
  have HL := hide hL
  have L1 : 11 ≤ L := by have := O.bN2; omega
  have L2 : L ≤ 1024 := by have := O.bN; omega
  have g1 : ¬ (L : Int) < 11 := by omega
  have g2 : ¬ (1024 : Int) < (BC.length : Int) := by rw [lC, ← hL]; omega
  have g3 : BC.length ≤ 100000 := by rw [lC, ← hL]; omega
  have HC := hide lC
  clear O hL lC hA
  go_enter Tryz.func8, Tryz.ntmps8
  go_wp2_with fail
  refine (C1.out _ m0).mono ?_
  rintro e w1 ⟨k, n, d, p, q, bP, bQ, qi, EP, EQ, rfl, m1, A⟩
  have m01 := m0.then m1
  have HA := hide A
  obtain ⟨fl, hk⟩ := A.hk
  have c0 := PKey.c0 hk
  clear q0 q1 q2 q3 q4 hk A m0 m1
  go_wp2_with fail
  refine (k_PublicKey _ k).mono ?_
  rintro e w' ⟨rfl, rfl⟩
  go_wp2_with fail
  refine (k_PSize _ k n Nv c0 HA.out.hn HO.out.bN).mono ?_
  rintro e w' ⟨rfl, rfl⟩
  rw [← HL.out]
  clear c0
  go_wp2_with fail
  refine (c_copied _ BC _ (gC.mod m01).1 g3).mono ?_
  rintro e w2 ⟨vc, rfl, m2, s2, f2⟩
  have GC : GotB w2 vc BC := ⟨s2, gC.2.1, fun _ _ _ _ e => (f2 _ _ _ _ e).2⟩
  have m02 := m01.then m2
  have A2 := HA.out.up m2
  clear m01 m2 s2 f2
  by_cases hlt : bval BC < Nv
  · have D : Calls Tryz.prog 19 #[ptr k, vc] w2 (fun e w' => ∃ b B, e = .returned (.tuple #[sl b 0 B.length B.length, .nilIface]) ∧ Mod [] w2 w' ∧ Blk w' b 5 (B.map u8) ∧ B.length = (blen Nv + 7) / 8 ∧ Bytes B ∧ bval B = crtM (bval BC) pv qv dv ((qv % pv) ^ (pv - 1 - 1) % pv) Nv) := k_DWC _ _ _ _ ((k_decrypt w2 k n en d p q pv qv dv _ Nv bP bQ qi EP EQ A2 vc BC GC HC.out hlt HO.out.hNv HO.out.kl.po HO.out.kl.qo HO.out.kl.p3 HO.out.kl.q3 HO.out.bN).mono fun e w' h => by obtain ⟨b, B, rfl, r⟩ := h; exact ⟨_, _, rfl, b, B, rfl, r⟩)
    have HD := hide D
    have HLT := hide hlt
    clear D hlt
    go_wp2_with fail
    refine HD.out.mono ?_
    rintro e w3 ⟨b, B, rfl, m3, rB, lB, yB, eB⟩
    have m03 := m02.then m3
    have EB := hide eB
    have hcb : CellsB w3 b 0 B := fun i hi => by rw [Nat.zero_add]; exact rB.at i hi
    have lB11 : 11 ≤ B.length := by rw [lB, ← HL.out]; exact L1
    have lB4 : B.length ≤ 100000 := by rw [lB, ← HL.out]; omega
    obtain ⟨z1, z2, z3, z4⟩ := zpos_spec (B := B) (by omega)
    have U := hide (c_Unpad b 0 B.length B w3 hcb lB11 lB4)
    have LB := hide lB
    obtain ⟨z, hz⟩ : ∃ z, z = zpos B := ⟨_, rfl⟩
    rw [← hz] at z1 z2 U
    have HZ := hide hz
    clear z3 z4 hz eB lB HD m02 m3
    by_cases hp : pad15 B = true
    · have hzl : zpos B < B.length := by unfold pad15 at hp; simp at hp; exact hp.1.2
      rw [← HZ.out] at hzl
      have U2 := U.out
      rw [if_pos hp, if_pos hp] at U2
      have HU := hide U2
      have HP := hide hp
      clear U U2 hp
      go_wp2_with fail
      refine HU.out.mono ?_
      rintro e w' ⟨rfl, rfl⟩
      have b1 : (z : Int) + 1 ≤ (B.length : Int) := by omega
      have hcb2 : CellsB w3 b (z + 1) (B.drop (z + 1)) := fun i hi => by
        rw [List.length_drop] at hi
        have := hcb (z + 1 + i) (by omega)
        rw [Nat.zero_add] at this
        rw [this]
        unfold nth
        rw [List.getD_eq_getElem?_getD, List.getD_eq_getElem?_getD, List.getElem?_drop]
      have HCP := hide (fun v (h : SliceB w3 v (B.drop (z + 1))) => c_copied v _ w3 h (by rw [List.length_drop]; omega))
      have HS1 : Hid (SliceB w3 (.slice (some ⟨b, z + 1, none⟩) (B.length - (z + 1)) (B.length - (z + 1))) (B.drop (z + 1))) := hide (.inr (.inr ⟨b, z + 1, B.length - (z + 1), by rw [List.length_drop], by rw [List.length_drop]; exact Nat.le_refl _, hcb2⟩))
      have HS2 : Hid (B.length - (z + 1) = 0 → SliceB w3 (.slice (some ⟨b, 0, none⟩) 0 0) (B.drop (z + 1))) := hide (fun h => .inr (.inl ⟨_, _, rfl, List.drop_eq_nil_of_le (by omega)⟩))
      clear hcb2
      go_wp2_with fail
      all_goals refine (HCP.out _ (by first | exact HS1.out | exact HS2.out (by omega))).mono ?_
      all_goals rintro e w4 ⟨vr, rfl, m4, s4, -⟩
      all_goals go_wp2_with fail
      all_goals go_ret2
      all_goals refine ⟨vr, B, m03.then m4, LB.out, yB, EB.out, ?_⟩
      all_goals rw [if_pos ⟨HLT.out, HP.out⟩, ← HZ.out]
      all_goals exact ⟨rfl, s4⟩
    · have U2 := U.out
      rw [if_neg hp, if_neg hp] at U2
      have HU := hide U2
      have HP := hide hp
      clear U U2 hp
      go_wp2_with fail
      refine HU.out.mono ?_
      rintro e w' ⟨rfl, rfl⟩
      go_wp2_with fail
      go_ret2
      refine ⟨.nilIface, B, m03, LB.out, yB, EB.out, ?_⟩
      rw [if_neg (fun h => HP.out h.2)]
      rfl
  · have D : Calls Tryz.prog 19 #[ptr k, vc] w2 (fun e w' => e = .returned (.tuple #[.slice none 0 0, .iface T x]) ∧ Mod [] w2 w') := k_DWC _ _ _ _ ((k_decrypt_bad w2 k n en d p q pv qv dv _ Nv bP bQ qi T x EP EQ A2 vc BC GC HC.out (by omega) (cell_up hG m02) (by have := HO.out.hNv; have := HO.out.kl.p3; have := HO.out.kl.q3; rw [HO.out.hNv]; have h := (Nat.mul_lt_mul_left (a := pv) (b := 1) (c := qv) (by omega)).2 (by omega); omega)).mono fun e w' h => by obtain ⟨rfl, r⟩ := h; exact ⟨_, _, rfl, rfl, r⟩)
    have HD := hide D
    have HLT := hide hlt
    clear D hlt
    obtain ⟨B, b1, b2, b3⟩ : ∃ B : List Nat, B.length = (blen Nv + 7) / 8 ∧ Bytes B ∧ bval B = crtM (bval BC) pv qv dv ((qv % pv) ^ (pv - 1 - 1) % pv) Nv := bytes_of _ _ (lt_size (Nat.mod_lt _ (by rw [HO.out.hNv]; have := HO.out.kl.p3; have := HO.out.kl.q3; exact Nat.mul_pos (by omega) (by omega))))
    have B3 := hide b3
    have B1 := hide b1
    clear b3 b1
    go_wp2_with fail
    refine HD.out.mono ?_
    rintro e w3 ⟨rfl, m3⟩
    go_wp2_with fail
    go_ret2
    refine ⟨.nilIface, B, m02.then m3, B1.out, b2, B3.out, ?_⟩
    rw [if_neg (fun h => HLT.out h.1)]
    rfl
end Go.Proofs.YtkhopfobjijnlaaGreatDoor
namespace Go.Proofs.YtkhopfobjijnlaaGreatDoor
open Go.RowKit

theorem conv_bytes {w : World} {v : Value} {B : List Nat} (h : SliceB w v B) : (convert 23 9 v).run Tryz.prog w = .ok (.string (strOfNums (B.map (fun x : Nat => (x : Int))))) w := by
  rcases h with ⟨rfl, rfl⟩ | ⟨x, c, rfl, rfl⟩ | ⟨b, o, c, rfl, hc, hb⟩
  · exact run_convert_bytes_zero w 23 5 Tryz.underlying23 Tryz.underlying5 none 0 9 Tryz.underlying9
  · exact run_convert_bytes_zero w 23 5 Tryz.underlying23 Tryz.underlying5 (some x) c 9 Tryz.underlying9
  · exact run_convert_bytes_arg (P := Tryz.prog) w 23 5 Tryz.underlying23 Tryz.underlying5 b o B.length c (B.map (fun x : Nat => (x : Int))) (by simp) (by
      intro i hi
      rw [hb i hi]
      simp [nth, hi]) 9 Tryz.underlying9

set_option maxRecDepth 100000 in
theorem c_BytesEq (v u : Value) (B : List Nat) (w : World) (h1 : SliceB w v B) (h2 : SliceB w u B) : Calls Tryz.prog 9 #[v, u] w fun e w' => e = .returned (.bool true) ∧ w = w' := by
  have e1 := conv_bytes h1
  have e2 := conv_bytes h2
  generalize strOfNums (B.map (fun x : Nat => (x : Int))) = s at e1 e2
  clear h1 h2
  go_enter Tryz.func9, Tryz.ntmps9
  go_wp2_with fail
  go_ret
  exact ⟨by simp, rfl⟩
end Go.Proofs.YtkhopfobjijnlaaGreatDoor
namespace Go.Proofs.YtkhopfobjijnlaaGreatDoor
open Go.RowKit

/-- A slice of one byte that the call has just made. -/
theorem one_byte {w : World} {w1 : World} (h : w1 = w.alloc (.cells #[.int .u8 15] 5)) : SliceB w1 (sl w.heap.size 0 1 1) [15] := by
  subst h
  refine .inr (.inr ⟨w.heap.size, 0, 1, rfl, by simp, ?_⟩)
  intro i hi
  simp at hi
  subst hi
  exact blk_cell0 (Blk.new w 5 [u8 15])
theorem bytes15 : Bytes [15] := by
  intro i
  rcases Nat.eq_zero_or_pos i with h | h
  · subst h; decide
  · rw [nth_ge (by rw [List.length_singleton]; exact h)]; omega

set_option maxRecDepth 100000 in
theorem c_alive (w : World) : Calls Tryz.prog 10 #[] w fun e w' => e = .returned (.bool true) ∧ Mod [] w w' := by
  have k1 : keyOk (bval [15]) 3 = true := by decide
  have k2 : keyOk (bval [15]) 2 = false := by decide
  have C1 := hide (c_Taken (sl w.heap.size 0 1 1) 3 [15] (w.alloc (.cells #[.int .u8 15] 5)) (one_byte rfl) bytes15 (by simp) (by omega))
  have C2 := hide (fun (w : World) => c_Taken (sl w.heap.size 0 1 1) 2 [15] (w.alloc (.cells #[.int .u8 15] 5)) (one_byte rfl) bytes15 (by simp) (by omega))
  rw [k1] at C1
  rw [k2] at C2
  clear k1 k2
  go_enter Tryz.func10, Tryz.ntmps10
  go_wp2_with fail
  refine C1.out.mono ?_
  rintro e w1 ⟨rfl, m1⟩
  go_wp2_with fail
  refine (C2.out _).mono ?_
  rintro e w2 ⟨rfl, m2⟩
  have m01 : Mod [] w w1 := Mod.trans (U := []) ((Mod.refl [] w).alloc _) m1 (by simp) (by simp)
  have m02 : Mod [] w w2 := Mod.trans (U := []) (m01.alloc _) m2 (by simp) (by simp)
  go_wp2_with fail
  go_ret
  exact ⟨rfl, m02⟩
end Go.Proofs.YtkhopfobjijnlaaGreatDoor
