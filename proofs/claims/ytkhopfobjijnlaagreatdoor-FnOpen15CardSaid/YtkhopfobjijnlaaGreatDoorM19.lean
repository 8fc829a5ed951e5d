/- The specification's whole numbers with a sign: spec.Make. spec.DivMod, all ways; spec.Gcd. -/
import Derived.Test.YtkhopfobjijnlaaGreatDoorM15
import Derived.Test.YtkhopfobjijnlaaGreatDoorM18
import Derived.Deep.LoopGhost
set_option linter.all false
namespace Go.Proofs.YtkhopfobjijnlaaGreatDoor
open Go.RowKit

theorem Canon.length_lt {L : List Nat} (h : Canon L) {k : Nat} (hk : valS L < 65536 ^ k) : L.length ≤ k := by
  rcases Nat.eq_zero_or_pos L.length with h0 | h0
  · omega
  · have h1 := valS_ge h (by omega)
    apply Classical.byContradiction
    intro hn
    have : 65536 ^ k ≤ 65536 ^ (L.length - 1) := Nat.pow_le_pow_right (by omega) (by omega)
    omega
theorem Canon.zero {L : List Nat} (h : Canon L) : valS L = 0 ↔ L.length = 0 := by
  constructor
  · intro h0
    rcases Nat.eq_zero_or_pos L.length with h1 | h1
    · exact h1
    · have := valS_ge h (by omega)
      have : 0 < 65536 ^ (L.length - 1) := Nat.pow_pos (by omega)
      omega
  · intro h0
    rw [List.eq_nil_of_length_eq_zero h0]; rfl

/-- A whole number with its sign in a value. -/
def IntIs (w : World) (v : Value) (z : Int) : Prop := ∃ s L, v = .agg #[.bool (decide (z < 0)), s] ∧ SliceK i64 w s L ∧ Canon L ∧ valS L = z.natAbs
theorem IntIs.mod {w w' : World} {v : Value} {z : Int} (h : IntIs w v z) (m : Mod [] w w') : IntIs w' v z := by
  obtain ⟨s, L, h1, h2, h3, h4⟩ := h
  exact ⟨s, L, h1, h2.mod m (by simp), h3, h4⟩

theorem load_int {w : World} {p : Nat} {c0 c1 : Value} (h0 : w.cell? ⟨p, 0, none⟩ = some c0) (h1 : w.cell? ⟨p, 1, none⟩ = some c1) : (loadVar 67 ⟨p, 0, none⟩).run Tryz.prog w = .ok (.agg #[c0, c1]) w := by
  go_simp
theorem results_cell1 {P : Program} {fn : Func} {t ty : Nat} {tmps : Array Value} {p : Addr} {v : Value} {w : World} (h : fn.results = #[.cell t ty]) (hp : tmps.getD t undef = .pointer (some p)) (hl : (loadVar ty p).run P w = .ok v w) :
    (results fn tmps).run P w = .ok v w := by
  have hp2 : tmps[t]?.getD undef = .pointer (some p) := by simpa using hp
  simp [results, h, hp2, asAddr, hl]
/-- A block that holds a number with its sign. -/
abbrev IntAt (w : World) (p : Nat) (v : Value) : Prop := ∃ c0 c1, v = .agg #[c0, c1] ∧ w.cell? ⟨p, 0, none⟩ = some c0 ∧ w.cell? ⟨p, 1, none⟩ = some c1
theorem blk2 {w : World} {p T : Nat} {c0 c1 : Value} (h : Blk w p T [c0, c1]) : IntAt w p (.agg #[c0, c1]) := ⟨c0, c1, rfl, by rw [h.cell]; rfl, by rw [h.cell]; rfl⟩
theorem results_int {fn : Func} {t p : Nat} {tmps : Array Value} {v : Value} {w : World} (h : fn.results = #[.cell t 67]) (hp : tmps.getD t undef = .pointer (some ⟨p, 0, none⟩)) (hv : IntAt w p v) :
    (results fn tmps).run Tryz.prog w = .ok v w := by
  obtain ⟨c0, c1, rfl, h0, h1⟩ := hv
  exact results_cell1 h hp (load_int h0 h1)
theorem IntIs.neg {w : World} {s : Value} {L : List Nat} (hs : SliceK i64 w s L) (hc : Canon L) (h0 : valS L ≠ 0) : IntIs w (.agg #[.bool true, s]) (-(valS L : Int)) :=
  ⟨s, L, by rw [decide_eq_true (by omega)], hs, hc, by omega⟩
theorem IntIs.pos {w : World} {s : Value} {L : List Nat} (hs : SliceK i64 w s L) (hc : Canon L) : IntIs w (.agg #[.bool false, s]) (valS L : Int) :=
  ⟨s, L, by rw [decide_eq_false (by omega)], hs, hc, by omega⟩

set_option maxRecDepth 100000 in
theorem c_Make (b : Bool) (vs : Value) (L : List Nat) (w : World) (hs : SliceK i64 w vs L) (hc : Canon L) :
    Calls Tryz.prog 32 #[.bool b, vs] w fun e w' => ∃ v, e = .returned v ∧ Mod [] w w' ∧ IntIs w' v (if b then -(valS L : Int) else valS L) := by
  obtain ⟨a, c, rfl⟩ := hs.lit
  have hz := hc.zero
  have m1 : ∀ u v, Mod [] w (w.alloc (.cells #[u, v] 67)) := fun u v => (Mod.refl [] w).alloc _
  have hI : ∀ u v, IntAt (w.alloc (.cells #[u, v] 67)) w.heap.size (.agg #[u, v]) := fun u v => blk2 (Blk.new w _ [u, v])
  cases b
  · go_enter Tryz.func32, Tryz.ntmps32
    go_wp2_with fail
    refine bodyPost_ret (results_int rfl rfl (hI _ _)) rfl ?_
    exact ⟨_, rfl, m1 _ _, IntIs.pos (hs.mod (m1 _ _) (by simp)) hc⟩
  · by_cases h0 : L.length = 0
    · have e0 : ¬ (0 : Int) < (L.length : Int) := by omega
      have hv0 := hz.2 h0
      clear hz h0
      go_enter Tryz.func32, Tryz.ntmps32
      go_wp2_with fail
      refine bodyPost_ret (results_int rfl rfl (hI _ _)) rfl ?_
      rw [decide_eq_false (by omega)]
      exact ⟨_, rfl, m1 _ _, by have := IntIs.pos (hs.mod (m1 (.bool false) (.slice a L.length c)) (by simp)) hc; rw [hv0] at this; exact this⟩
    · have e0 : (0 : Int) < (L.length : Int) := by omega
      have hv0 : valS L ≠ 0 := fun h => h0 (hz.1 h)
      have HV := hide hv0
      clear hz h0 hv0
      go_enter Tryz.func32, Tryz.ntmps32
      go_wp2_with fail
      refine bodyPost_ret (results_int rfl rfl (hI _ _)) rfl ?_
      rw [decide_eq_true (by omega)]
      exact ⟨_, rfl, m1 _ _, IntIs.neg (hs.mod (m1 _ _) (by simp)) hc HV.out⟩
end Go.Proofs.YtkhopfobjijnlaaGreatDoor
namespace Go.Proofs.YtkhopfobjijnlaaGreatDoor
open Go.RowKit

theorem c_DivMod (va vb : Value) (A B : List Nat) (w : World) (ha : SliceK i64 w va A) (hb : SliceK i64 w vb B) (cA : Canon A) (cB : Canon B) (lA : A.length ≤ 50000) (hB : valS B ≠ 0) :
    Calls Tryz.prog 28 #[va, vb] w (DivPost A B w) := by
  rcases Nat.lt_or_ge (valS A) (valS B) with hlt | hge
  · exact c_DivMod_lt va vb A B w ha hb cA cB lA hlt
  · have h0 : B.length ≠ 0 := fun h => hB (cB.zero.2 h)
    by_cases h1 : B.length = 1
    · exact c_DivMod_one va vb A B w ha hb cA cB lA hge h1
    · exact c_DivMod_long va vb A B w ha hb cA cB lA hge (by omega)

set_option maxRecDepth 100000 in
theorem c_Gcd (va vb : Value) (A B : List Nat) (w : World) (ha : SliceK i64 w va A) (hb : SliceK i64 w vb B) (cA : Canon A) (cB : Canon B) (lA : A.length ≤ 50000) (lB : B.length ≤ 50000) :
    Calls Tryz.prog 30 #[va, vb] w fun e w' => ∃ v L, e = .returned v ∧ Mod [] w w' ∧ SliceK i64 w' v L ∧ Canon L ∧ valS L = Nat.gcd (valS A) (valS B) := by
  go_enter Tryz.func30, Tryz.ntmps30
  go_wp2_with fail
  go_loopg [0, 1] (valS B) (fun k a b wr => ∃ va' vb' A' B', va' = a ∧ vb' = b ∧ Mod [] w wr ∧ SliceK i64 wr va' A' ∧ SliceK i64 wr vb' B' ∧ Canon A' ∧ Canon B' ∧ A'.length ≤ 50000 ∧ B'.length ≤ 50000 ∧ Hid (valS B' = k) ∧ Hid (Nat.gcd (valS A') (valS B') = Nat.gcd (valS A) (valS B)))
  case atStart => exact ⟨va, vb, A, B, rfl, rfl, Mod.refl _ _, ha, hb, cA, cB, lA, lB, hide rfl, hide rfl⟩
  case round =>
    obtain ⟨va', vb', A', B', rfl, rfl, hm, hA, hB, kA, kB, lA', lB', hk, hg⟩ := hrel
    obtain ⟨ab, cb, hvb⟩ := hB.lit
    subst hvb
    by_cases h0 : B'.length = 0
    · obtain rfl := List.eq_nil_of_length_eq_zero h0
      clear h0
      simp only [List.length_nil] at *
      go_wp2_with fail
      go_ret
      exact ⟨va', A', rfl, hm, hA, kA, by have := hg.out; simpa [valS] using this⟩
    · have hne : valS B' ≠ 0 := fun h => h0 (kB.zero.1 h)
      have hpos : (0 : Int) < (B'.length : Int) := by omega
      have C := hide (c_DivMod va' (.slice ab B'.length cb) A' B' wr hA hB kA kB lA' hne)
      have HNE := hide hne
      clear h0 hne
      go_wp2_with fail
      refine C.out.mono ?_
      rintro e w2 ⟨v1, v2, Q, R, rfl, m2, hQ, cQ, eQ, lQ, hR, cR, eR, lR⟩
      have m02 : Mod [] w w2 := Mod.trans (U := []) hm m2 (by simp) (by simp)
      have ER := hide eR
      have hB2 := hB.mod m2 (by simp)
      clear eR eQ C
      go_wp2_with fail
      go_roundg (valS R)
      case measure => rw [ER.out, ← hk.out]; exact Nat.mod_lt _ (by have := HNE.out; omega)
      case rel => exact ⟨_, v2, B', R, rfl, rfl, m02, hB2, hR, kB, cR, lB', by omega, hide rfl, hide (by rw [← hg.out, ER.out, Nat.gcd_comm (valS B'), ← Nat.gcd_rec, Nat.gcd_comm])⟩
end Go.Proofs.YtkhopfobjijnlaaGreatDoor
