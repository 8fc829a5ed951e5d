/-
  PROVED: 'Rows.FnThereCardSaid' (laws.FnThere): for every two bytes, every number of 32 bits, every byte and every three slices of bytes the call returns true, and the arguments read as they did. No condition but the row's own: the package's five error variables start as their texts lay them (the tables of the hashes may hold any numbers).
  The frame of this text follows the kit's worked rows (MapyProofs, ToyasProofs, BeyondCard); the walk is mine.
-/
import Derived.Test.YtfgmnbmnpihjdaaGreatDoorRows
import Derived.Test.YtfgmnbmnpihjdaaGreatDoorCards
import Derived.Test.YtfgmnbmnpihjdaaGreatDoorTie
import Derived.Test.YtfgmnbmnpihjdaaGreatDoorLawT
import Derived.Test.YtfgmnbmnpihjdaaGreatDoorShaped2
import Derived.Carry
import Derived.LaidMore
import Derived.WalkKit
import Derived.ProofKit
import Derived.OpenShut
import Derived.OpenVars
import Derived.ShutString
import Derived.ChangeOld
import Derived.ChangeSame
import Derived.ChangeVars
import Derived.JoinedOf
import Derived.LaidLaws
import Derived.LaidOnce
import Derived.LaidHandle
import Derived.Below
import Derived.DataShut
import Derived.SevenTiedAt
import Derived.SevenBeyond
import Derived.Stop.LaidErr
import Derived.Stop.Joined
namespace Go.Proofs.YtfgmnbmnpihjdaaGreatDoor.fnThere
open Go.ChangeShapes Go.WideShapes Go.ChangeAt Go.RowKit
set_option linter.unusedVariables false

theorem own : ownKnob Tryz.prog.godebug = none := by kernel_rfl
theorem laidOut : laidOutB Tryz.prog = true := by kernel_rfl

/-- WHAT THE WALK IS TOLD OF A SLICE OF INTEGERS THAT CAME IN (as in KeyB). -/
def IsRow (k : IntKind) (w : World) (a : Option Addr) (len cap : Nat) (zs : List Int) : Prop :=
  (a = none ∧ len = 0 ∧ cap = 0 ∧ zs = []) ∨
  ∃ x, a = some x ∧ len ≤ cap ∧ cap ≤ maxLen ∧ zs.length = cap ∧ (∀ i, i < zs.length → w.cell? (x.add i) = some (.int k (zs.getD i 0))) ∧ ∀ n ∈ zs, (Lit.int k n).wf = true

theorem row_slice {w : World} {a : Option Addr} {len cap : Nat} {zs : List Int} (h : IsRow .u8 w a len cap zs) : ∃ B, SliceB w (.slice a len cap) B ∧ Bytes B := by
  rcases h with ⟨rfl, rfl, rfl, rfl⟩ | ⟨x, rfl, hl, hm, hz, hcell, hwz⟩
  · exact ⟨[], .inl ⟨rfl, rfl⟩, fun i => by rw [nth_ge (by simp)]; omega⟩
  · by_cases h0 : len = 0
    · subst h0
      exact ⟨[], .inr (.inl ⟨x, cap, rfl, rfl⟩), fun i => by rw [nth_ge (by simp)]; omega⟩
    · obtain ⟨b, off, spot⟩ := x
      have hc := hcell 0 (by omega)
      have hspot : spot = none := by simpa [Addr.add] using World.cell?_spot hc
      subst hspot
      have hwf : ∀ i, i < zs.length → 0 ≤ zs.getD i 0 ∧ zs.getD i 0 < 256 := by
        intro i hi
        have h1 := (Lit.wf_int_iff .u8 _).1 (hwz (zs.getD i 0) (by simp [hi]))
        have h2 : IntKind.u8.min = 0 := by decide
        have h3 : IntKind.u8.max = 255 := by decide
        omega
      have hlen : ((zs.take len).map Int.toNat).length = len := by simp; omega
      have hnth : ∀ i, i < len → nth ((zs.take len).map Int.toNat) i = (zs.getD i 0).toNat := by
        intro i hi
        have : i < zs.length := by omega
        simp [nth, hi, this]
      refine ⟨(zs.take len).map Int.toNat, .inr (.inr ⟨b, off, cap, by rw [hlen], by omega, fun i hi => ?_⟩), fun i => ?_⟩
      · rw [hlen] at hi
        have h1 := hcell i (by omega)
        have h2 := hwf i (by omega)
        rw [add_addr] at h1
        rw [h1, hnth i hi]
        congr 2
        show zs.getD i 0 = ((zs.getD i 0).toNat : Int)
        omega
      · rcases Nat.lt_or_ge i len with hi | hi
        · rw [hnth i hi]
          have h2 := hwf i (by omega)
          omega
        · rw [nth_ge (by rw [hlen]; exact hi)]; omega

/-- The two tables of the hashes hold some numbers. -/
theorem rowK {W : World} (h : W.ShapedOpen Tryz.prog) : ∃ K : List Int, K.length = 64 ∧ Blk W 5 237 (K.map v32) := by
  obtain ⟨L, h1, h2, _⟩ := row_of_shapedOpen (g := 5) (n := 64) (t := 237) (u := 22) (zero := Array.replicate 64 (.int .u32 0)) (k := .u32) h (by decide +kernel) (by kernel_rfl) (by simp) (by kernel_rfl) (by kernel_rfl) Tryz.underlying22
  exact ⟨L, h1, h2⟩
theorem rowK' {W : World} (h : W.ShapedOpen Tryz.prog) : ∃ K : List Int, K.length = 80 ∧ Blk W 6 241 (K.map v64) := by
  obtain ⟨L, h1, h2, _⟩ := row_of_shapedOpen (g := 6) (n := 80) (t := 241) (u := 135) (zero := Array.replicate 80 (.int .u64 0)) (k := .u64) h (by decide +kernel) (by kernel_rfl) (by simp) (by kernel_rfl) (by kernel_rfl) Tryz.underlying135
  exact ⟨L, h1, h2⟩

/-- The walk. -/
theorem walk (a0 a1 a2 a3 : Int) (a4 a5 a6 : Option Addr) (len4 cap4 len5 cap5 len6 cap6 : Nat) (z4 z5 z6 : List Int) (W : World) (w0 : (Lit.int .u8 a0).wf = true) (w1 : (Lit.int .u8 a1).wf = true) (w2 : (Lit.int .u32 a2).wf = true) (w3 : (Lit.int .u8 a3).wf = true)
    (w4 : IsRow .u8 W a4 len4 cap4 z4) (w5 : IsRow .u8 W a5 len5 cap5 z5) (w6 : IsRow .u8 W a6 len6 cap6 z6) (hsh : W.ShapedOpen Tryz.prog) :
    Calls Tryz.prog 3 #[.int .u8 a0, .int .u8 a1, .int .u32 a2, .int .u8 a3, .slice a4 len4 cap4, .slice a5 len5 cap5, .slice a6 len6 cap6] W fun e w' => e = .returned (.bool true) ∧ Below W.heap.size W w' := by
  obtain ⟨B4, hb4, hB4⟩ := row_slice w4
  obtain ⟨B5, hb5, hB5⟩ := row_slice w5
  obtain ⟨B6, hb6, hB6⟩ := row_slice w6
  obtain ⟨K, lK, bK⟩ := rowK hsh
  obtain ⟨K', lK', bK'⟩ := rowK' hsh
  have h0 := (Lit.wf_int_iff .u8 _).1 w0
  have h1 := (Lit.wf_int_iff .u8 _).1 w1
  have h2 := (Lit.wf_int_iff .u32 _).1 w2
  have h3 := (Lit.wf_int_iff .u8 _).1 w3
  have e1 : IntKind.u8.min = 0 := by decide
  have e2 : IntKind.u8.max = 255 := by decide
  have e3 : IntKind.u32.min = 0 := by decide
  have e4 : IntKind.u32.max = 4294967295 := by decide
  obtain ⟨n0, rfl⟩ : ∃ n : Nat, a0 = n := ⟨a0.toNat, by omega⟩
  obtain ⟨n1, rfl⟩ : ∃ n : Nat, a1 = n := ⟨a1.toNat, by omega⟩
  obtain ⟨n2, rfl⟩ : ∃ n : Nat, a2 = n := ⟨a2.toNat, by omega⟩
  obtain ⟨n3, rfl⟩ : ∃ n : Nat, a3 = n := ⟨a3.toNat, by omega⟩
  refine (c_FnThere K K' n0 n1 n2 n3 _ _ _ B4 B5 B6 W (by omega) (by omega) (by omega) (by omega) hb4 hB4 hb5 hB5 hb6 hB6 lK lK' bK bK').mono ?_
  rintro e w' ⟨rfl, hm⟩
  exact ⟨rfl, hm.below⟩

/-- Two variables: two readings. -/
theorem two_vars {H : Type} {enc : TypeId × Value → H} {P : Program} {W : World} {sp : Nat → Bool} {n1 n2 : String} {gs : List (DataW H)} {q : List MemPlace} (h : DataW.TrodVars enc P W sp [n1, n2] gs q) : ∃ a b, gs = [a, b] := by
  match gs, h with
  | [], h => exact h.elim
  | [_], ⟨_, _, _, _, _, _, _, _, _, _, h, _⟩ => exact h.elim
  | [a, b], _ => exact ⟨a, b, rfl⟩
  | _ :: _ :: _ :: _, ⟨_, _, _, _, _, _, _, _, _, _, ⟨_, _, _, _, _, _, _, _, _, _, h, _⟩, _⟩ => exact h.elim

theorem door_met (os : Os) (args : Array Value) : laidMetH Tryz.prog Rows.fnThereRow.laid ((World.doorLaid Tryz.prog 200 os).forCall (fun _ _ => 0) ⟨#[], args, []⟩).memory :=
  laidMetH_of_parts (laidMet_of_run' 8 (by kernel_rfl) (by kernel_rfl)) (by kernel_rfl)

/-! ### THE ROW's STEP -/
theorem row_of_trod {H : Type} {enc : TypeId × Value → H} {W : World} {base : Nat} {a : Option Addr} {len cap : Nat} {d : DataW H} {p : List MemPlace} (h3 : DataW.Trod enc Tryz.prog W 0 (fun _ => true) true 23 (.slice a len cap) d p) : ∃ zs, IsRow .u8 W a len cap zs := by
  obtain ⟨fuel, hf⟩ := h3
  rcases open_ints Tryz.underlying23 Tryz.underlying5 (by kernel_rfl) hf with ⟨hcs, _⟩ | ⟨x, l, c, zs, hcs, _, hl, hm, hz, _, hcell, hwz⟩
  · simp [Value.cells] at hcs
    obtain ⟨rfl, rfl, rfl⟩ := hcs
    exact ⟨[], .inl ⟨rfl, rfl, rfl, rfl⟩⟩
  · simp [Value.cells] at hcs
    obtain ⟨rfl, rfl, rfl⟩ := hcs
    exact ⟨zs, .inr ⟨_, rfl, hl, hm, by simpa using hz, hcell, hwz⟩⟩

set_option maxRecDepth 100000 in
theorem lifted (os : Os) (started : os.Started) (H : Type) (enc : TypeId × Value → H) :
    ReturnsInHanded {} Tryz.checked os 3 .any (fun w args => (Rows.fnThereSpec.pre enc Tryz.prog Tryz.f3 [] false w args ∧ laidMetH Tryz.prog Rows.fnThereRow.laid w) ∧ sizedMet enc Tryz.prog Tryz.f3 (OpenSpec.ofChange Rows.fnThereSpec) false w args)
      (Rows.fnThereSpec.post enc Tryz.prog Tryz.f3 false true false false) := by
  refine step_shaped (C := Tryz.checked) (X := fun w _ => laidMetH Tryz.prog Rows.fnThereRow.laid w) (fun _ _ _ hh h => h.of_heap hh) own started (by kernel_rfl) Tryz.func3
    (ChangeSpec.witness_shaped (enc := enc) (C := Tryz.checked) (os := os) (X := fun w _ => laidMetH Tryz.prog Rows.fnThereRow.laid w) false (World.doorLaid Tryz.prog 200 os) #[.int .u8 0, .int .u8 0, .int .u32 0, .int .u8 0, .slice none 0 0, .slice none 0 0, .slice none 0 0] 8 rfl (World.shaped_of_RefB (by kernel_rfl) (by kernel_rfl)) (by kernel_rfl) (by kernel_rfl) (by kernel_rfl) (door_met os _)) ?_
  intro W base args ds gs before hval0 hW _ _ _ hsh _
  have hval : ∀ (j : Nat) t v, Tryz.f3.params[j]? = some t → args[j]? = some v → Value.okWide Tryz.prog W .any base t v := hval0
  have hW' := hW
  obtain ⟨p, q, hA0, hV, rfl, hfz, hnd⟩ := hW
  have hA : DataW.TrodAll enc Tryz.prog W 0 (fun _ => true) true Tryz.f3.params.toList args.toList ds p := hA0
  rw [Tryz.params3] at hA hval
  obtain ⟨v0, vs0, d0, ds0, p0, q0, hargs, rfl, rfl, h0, r0⟩ := trodAll_cons hA
  obtain ⟨v1, vs1, d1, ds1, p1, q1, rfl, rfl, rfl, h1, r1⟩ := trodAll_cons r0
  obtain ⟨v2, vs2, d2, ds2, p2, q2, rfl, rfl, rfl, h2, r2⟩ := trodAll_cons r1
  obtain ⟨v3, vs3, d3, ds3, p3, q3, rfl, rfl, rfl, h3, r3⟩ := trodAll_cons r2
  obtain ⟨v4, vs4, d4, ds4, p4, q4, rfl, rfl, rfl, h4, r4⟩ := trodAll_cons r3
  obtain ⟨v5, vs5, d5, ds5, p5, q5, rfl, rfl, rfl, h5, r5⟩ := trodAll_cons r4
  obtain ⟨v6, vs6, d6, ds6, p6, q6, rfl, rfl, rfl, h6, r6⟩ := trodAll_cons r5
  obtain ⟨rfl, rfl, rfl⟩ := trodAll_nil r6
  obtain rfl : args = #[v0, v1, v2, v3, v4, v5, v6] := by cases args; simp_all
  obtain ⟨a0, rfl, rfl, rfl, w0⟩ := open_int Tryz.underlying5 (hval 0 5 v0 rfl rfl) h0
  obtain ⟨a1, rfl, rfl, rfl, w1⟩ := open_int Tryz.underlying5 (hval 1 5 v1 rfl rfl) h1
  obtain ⟨a2, rfl, rfl, rfl, w2⟩ := open_int Tryz.underlying22 (hval 2 22 v2 rfl rfl) h2
  obtain ⟨a3, rfl, rfl, rfl, w3⟩ := open_int Tryz.underlying5 (hval 3 5 v3 rfl rfl) h3
  obtain ⟨a4, len4, cap4, rfl⟩ := okWide_slice Tryz.underlying23 (hval 4 23 v4 rfl rfl)
  obtain ⟨a5, len5, cap5, rfl⟩ := okWide_slice Tryz.underlying23 (hval 5 23 v5 rfl rfl)
  obtain ⟨a6, len6, cap6, rfl⟩ := okWide_slice Tryz.underlying23 (hval 6 23 v6 rfl rfl)
  have lt4 : ∀ x ∈ p4, x.block < W.heap.size := by obtain ⟨m, hm⟩ := h4; exact DataW.trod_lt m _ _ _ hm
  have lt5 : ∀ x ∈ p5, x.block < W.heap.size := by obtain ⟨m, hm⟩ := h5; exact DataW.trod_lt m _ _ _ hm
  have lt6 : ∀ x ∈ p6, x.block < W.heap.size := by obtain ⟨m, hm⟩ := h6; exact DataW.trod_lt m _ _ _ hm
  obtain ⟨z4, w4⟩ := row_of_trod (base := base) h4
  obtain ⟨z5, w5⟩ := row_of_trod (base := base) h5
  obtain ⟨z6, w6⟩ := row_of_trod (base := base) h6
  obtain ⟨g1, g2, rfl⟩ := two_vars hV
  clear hA0 hval0
  refine (walk a0 a1 a2 a3 a4 a5 a6 len4 cap4 len5 cap5 len6 cap6 z4 z5 z6 W w0 w1 w2 w3 w4 w5 w6 hsh).mono fun e W' ⟨he, bel⟩ => ?_
  subst he
  exact ⟨_, rfl, _, _, _, [], _, q, hW', trodAll_mk1 (shut_bool Tryz.underlying4 _),
    (trodAll_cons_mk (shut_int Tryz.underlying5 w0) (trodAll_cons_mk (shut_int Tryz.underlying5 w1) (trodAll_cons_mk (shut_int Tryz.underlying22 w2) (trodAll_cons_mk (shut_int Tryz.underlying5 w3)
      (trodAll_cons_mk (Below.trod laidOut (by kernel_rfl) (of_decide_eq_true (by kernel_rfl)) h4 bel lt4) (trodAll_cons_mk (Below.trod laidOut (by kernel_rfl) (of_decide_eq_true (by kernel_rfl)) h5 bel lt5) (trodAll_cons_mk (Below.trod laidOut (by kernel_rfl) (of_decide_eq_true (by kernel_rfl)) h6 bel lt6) trodAll_mk0))))))),
    Below.trodVars laidOut bel (by kernel_rfl) hV, bel.frame _, fun h => by cases h⟩

/-- All of the row's 'holds' but its first limb. -/
theorem rest : Rows.fnThereRow.rest Tryz.pinned (OpenSpec.ofChange Rows.fnThereSpec) :=
  OpenClaim.rest_of_wide 3 Tryz.f3 rfl rfl rfl rfl rfl rfl rfl ⟨rfl, rfl, rfl, rfl, rfl⟩ rfl rfl rfl rfl rfl (by kernel_rfl) Tryz.func3 (by kernel_rfl)
    (of_decide_eq_true (by kernel_rfl)) (by unfold Func.isWrapper; first | (rw [if_pos (by decide +kernel)]; kernel_rfl) | (rw [if_neg (by decide +kernel)]; exact ⟨rfl, rfl⟩))
    (fun os started H enc _ => lifted os started H enc)
end Go.Proofs.YtfgmnbmnpihjdaaGreatDoor.fnThere
namespace Go.Proofs.YtfgmnbmnpihjdaaGreatDoor
/-- The statement: the tied card. -/
theorem fnThereCard_holds : Rows.FnThereCardSaid :=
  Claim7.holds_tied_beyond .later [.sentinel, .sentinel, .sentinel, .sentinel, .sentinel] true (true, "dad6b71b126dcef93adba6c1f1595ab01a292818ae8d1bc4310370deb459a630") true
    fnThere.rest (by kernel_rfl) fnThere_row_tie rfl ⟨rfl, rfl⟩ (by kernel_rfl)
    (fun f fn hf hfn => by
      obtain rfl : f = 3 := Option.some.inj ((show Tryz.prog.funcNamed "loop.example/pub-g03280/laws.FnThere" = some 3 by kernel_rfl).symm.trans hf) |>.symm
      obtain rfl : fn = Tryz.f3 := (Option.some.inj (Tryz.func3.symm.trans hfn)).symm
      exact ⟨by kernel_rfl, fun j t ht => by
        rw [Tryz.params3] at ht
        have hm : t ∈ [5, 5, 22, 5, 23, 23, 23] := by simpa using Array.mem_of_getElem? ht
        have hall : ([5, 5, 22, 5, 23, 23, 23].all fun u => !Tryz.prog.wantsStandIn u) = true := by kernel_rfl
        exact (show Tryz.prog.wantsStandIn t = false by simpa using List.all_eq_true.1 hall t hm)⟩)
    (by kernel_rfl)
#print axioms fnThereCard_holds
end Go.Proofs.YtfgmnbmnpihjdaaGreatDoor
