/-
  PROVED: 'Rows.FnOpen15CardSaid' (laws.FnOpen15): for every two bytes, every number of 32 bits and every slice of bytes the call returns true, and the arguments read as they did. No condition but the row's own: the package's variable rsa.ErrDecryption starts as its text lays it.
  The frame of this text follows the kit's worked rows (MapyProofs, ToyasProofs, CheckedsumProofs, ToyasCard); the walk is mine.
-/
import Derived.Test.YtkhopfobjijnlaaGreatDoorRows
import Derived.Test.YtkhopfobjijnlaaGreatDoorCards
import Derived.Test.YtkhopfobjijnlaaGreatDoorTie
import Derived.Test.YtkhopfobjijnlaaGreatDoorLaw
import Derived.Carry
import Derived.LaidMore
import Derived.WalkKit
import Derived.ProofKit
import Derived.OpenShut
import Derived.ShutString
import Derived.ChangeOld
import Derived.ChangeSame
import Derived.ChangeVars
import Derived.JoinedOf
import Derived.LaidLaws
import Derived.LaidHandle
import Derived.Below
import Derived.DataShut
import Derived.SevenTiedAt
import Derived.Stop.LaidErr
namespace Go.Proofs.YtkhopfobjijnlaaGreatDoor.fnOpen15
open Go.ChangeShapes Go.WideShapes Go.ChangeAt Go.RowKit
set_option linter.unusedVariables false

theorem own : ownKnob Tryz.prog.godebug = none := by kernel_rfl
theorem laidOut : laidOutB Tryz.prog = true := by kernel_rfl
theorem gErr : Tryz.prog.globalNamed "loop.example/pub-g03280/pub/rsa.ErrDecryption" = some 0 := by kernel_rfl

/-- WHAT THE WALK IS TOLD OF A SLICE OF INTEGERS THAT CAME IN (as in KeyB). -/
def IsRow (k : IntKind) (w : World) (a : Option Addr) (len cap : Nat) (zs : List Int) : Prop :=
  (a = none ∧ len = 0 ∧ cap = 0 ∧ zs = []) ∨
  ∃ x, a = some x ∧ len ≤ cap ∧ cap ≤ maxLen ∧ zs.length = cap ∧ (∀ i, i < zs.length → w.cell? (x.add i) = some (.int k (zs.getD i 0))) ∧ ∀ n ∈ zs, (Lit.int k n).wf = true

theorem row_slice {w : World} {a : Option Addr} {len cap : Nat} {zs : List Int} (h : IsRow .u8 w a len cap zs) : ∃ B, SliceB w (.slice a len cap) B ∧ Bytes B := by
  rcases h with ⟨rfl, rfl, rfl, rfl⟩ | ⟨x, rfl, hl, hm, hz, hcell, hwz⟩
  · exact ⟨[], .inl ⟨rfl, rfl⟩, fun i => by rw [nth_ge (by simp)]; omega⟩
  · by_cases h0 : len = 0
    · subst h0
      exact ⟨[], .inr (.inl ⟨x, cap, rfl, rfl⟩), fun i => by rw [nth_ge (by simp)]; omega⟩
    · obtain ⟨b, off, spot⟩ := x
      have hc := hcell 0 (by omega)
      have hspot : spot = none := by simpa [Addr.add] using World.cell?_spot hc
      subst hspot
      have hwf : ∀ i, i < zs.length → 0 ≤ zs.getD i 0 ∧ zs.getD i 0 < 256 := by
        intro i hi
        have h1 := (Lit.wf_int_iff .u8 _).1 (hwz (zs.getD i 0) (by simp [hi]))
        have h2 : IntKind.u8.min = 0 := by decide
        have h3 : IntKind.u8.max = 255 := by decide
        omega
      have hlen : ((zs.take len).map Int.toNat).length = len := by simp; omega
      have hnth : ∀ i, i < len → nth ((zs.take len).map Int.toNat) i = (zs.getD i 0).toNat := by
        intro i hi
        have : i < zs.length := by omega
        simp [nth, hi, this]
      refine ⟨(zs.take len).map Int.toNat, .inr (.inr ⟨b, off, cap, by rw [hlen], by omega, fun i hi => ?_⟩), fun i => ?_⟩
      · rw [hlen] at hi
        have h1 := hcell i (by omega)
        have h2 := hwf i (by omega)
        rw [add_addr] at h1
        rw [h1, hnth i hi]
        congr 2
        show zs.getD i 0 = ((zs.getD i 0).toNat : Int)
        omega
      · rcases Nat.lt_or_ge i len with hi | hi
        · rw [hnth i hi]
          have h2 := hwf i (by omega)
          omega
        · rw [nth_ge (by rw [hlen]; exact hi)]; omega

/-- The walk, from a world whose block 0 holds the package's error. ✋ c_FnOpen15 wants ByV: its third part (the block lies below heap.size) comes from the reading's places (lt3 of the row's step). -/
theorem walk (a0 a1 a2 : Int) (a3 : Option Addr) (len3 cap3 : Nat) (z3 : List Int) (W : World) (T : Nat) (x : Value) (w0 : (Lit.int .u8 a0).wf = true) (w1 : (Lit.int .u8 a1).wf = true) (w2 : (Lit.int .u32 a2).wf = true) (w3 : IsRow .u8 W a3 len3 cap3 z3)
    (hlt : ∀ b o n c, Value.slice a3 len3 cap3 = sl b o n c → b < W.heap.size) (hG : W.cell? ⟨0, 0, none⟩ = some (.iface T x)) :
    Calls Tryz.prog 3 #[.int .u8 a0, .int .u8 a1, .int .u32 a2, .slice a3 len3 cap3] W fun e w' => e = .returned (.bool true) ∧ Below W.heap.size W w' := by
  obtain ⟨B, hb, hB⟩ := row_slice w3
  have h0 := (Lit.wf_int_iff .u8 _).1 w0
  have h1 := (Lit.wf_int_iff .u8 _).1 w1
  have h2 := (Lit.wf_int_iff .u32 _).1 w2
  have e1 : IntKind.u8.min = 0 := by decide
  have e2 : IntKind.u8.max = 255 := by decide
  have e3 : IntKind.u32.min = 0 := by decide
  have e4 : IntKind.u32.max = 4294967295 := by decide
  obtain ⟨n0, rfl⟩ : ∃ n : Nat, a0 = n := ⟨a0.toNat, by omega⟩
  obtain ⟨n1, rfl⟩ : ∃ n : Nat, a1 = n := ⟨a1.toNat, by omega⟩
  obtain ⟨n2, rfl⟩ : ∃ n : Nat, a2 = n := ⟨a2.toNat, by omega⟩
  refine (c_FnOpen15 n0 n1 n2 _ B W T x (by omega) (by omega) (by omega) ⟨hb, hB, hlt⟩ hG).mono ?_
  rintro e w' ⟨rfl, hm⟩
  exact ⟨rfl, hm.below⟩

/-! ### CLOSED FACTS ON THE SENTINEL -/
theorem gType : (Tryz.prog.globals[0]?).map (·.type) = some 52 := by kernel_rfl
theorem cellsE : Tryz.prog.cellsOf 151 = 1 := by kernel_rfl
theorem cellsS : Tryz.prog.cellsOf 9 = 1 := by kernel_rfl
theorem star : "*" ++ "errors.errorString" = "*errors.errorString" := by decide
theorem rowE (u : TypeId) (h : Tryz.prog.typeName? 3 u = some "*errors.errorString") : u = 149 :=
  typeName_ptr_named (nm := "errors.errorString") (by rw [star]; kernel_rfl) (by kernel_rfl) (by decide) u (by rw [star]; exact h)

/-! ### ONE START THAT FITS: the sentinel as its text lays it -/
abbrev errS : ByteArray := { data := #[99, 114, 121, 112, 116, 111, 47, 114, 115, 97, 58, 32, 100, 101, 99, 114, 121, 112, 116, 105, 111, 110, 32, 101, 114, 114, 111, 114] }
noncomputable def low : Nat := (World.holding Tryz.prog default ⟨#[], #[], []⟩).heap.size
noncomputable def laidWorld (os : Os) : World :=
  let w0 := World.holding Tryz.prog os ⟨#[.cells #[.string errS] 151], #[], []⟩
  { w0 with heap := w0.heap.modify 0 fun
      | .cells _ t frozen => .cells #[.iface 149 (.pointer (some ⟨low, 0, none⟩))] t frozen
      | o => o }
theorem laid_met (os : Os) (args : Array Value) : laidMetH Tryz.prog Rows.fnOpen15Row.laid ((laidWorld os).forCall (fun _ _ => 0) ⟨#[], args, []⟩).memory :=
  laidMetH_of_parts (laidMet_of_run' 8 (by kernel_rfl) (by kernel_rfl)) (by kernel_rfl)

theorem var?_below {W W' : World} {P : Program} {n : String} {cs : Array Value} (h : Below W.heap.size W W') (hv : W.var? P n = some cs) : W'.var? P n = some cs := by
  unfold World.var? at hv ⊢
  cases hg : P.globalNamed n with
  | none => simp [hg] at hv
  | some g =>
    simp only [hg, Option.bind_some] at hv ⊢
    have hlt : g < W.heap.size := by
      rcases Nat.lt_or_ge g W.heap.size with h' | h'
      · exact h'
      · simp [Array.getElem?_eq_none h'] at hv
    rw [h.block g hlt]
    exact hv

/-! ### THE ROW's STEP -/
set_option maxRecDepth 100000 in
theorem lifted (os : Os) (started : os.Started) (H : Type) (enc : TypeId × Value → H) :
    ReturnsInHanded {} Tryz.checked os 3 .any (fun w args => (Rows.fnOpen15Spec.pre enc Tryz.prog Tryz.f3 [] false w args ∧ laidMetH Tryz.prog Rows.fnOpen15Row.laid w) ∧ sizedMet enc Tryz.prog Tryz.f3 (OpenSpec.ofChange Rows.fnOpen15Spec) false w args)
      (Rows.fnOpen15Spec.post enc Tryz.prog Tryz.f3 false true false false) := by
  refine returnsInHanded_of_change_and (C := Tryz.checked) (X := fun w _ => laidMetH Tryz.prog Rows.fnOpen15Row.laid w) (fun _ _ _ hh h => h.of_heap hh) own started (by kernel_rfl) Tryz.func3
    (ChangeSpec.witness_at (enc := enc) (C := Tryz.checked) (os := os) (X := fun w _ => laidMetH Tryz.prog Rows.fnOpen15Row.laid w) false (laidWorld os) #[.int .u8 0, .int .u8 0, .int .u32 0, .slice none 0 0] 8 rfl (by kernel_rfl) (by kernel_rfl) (by kernel_rfl) (by kernel_rfl) (by kernel_rfl) (laid_met os _)) ?_
  intro W base args ds gs before hval0 hW _ _ hL0 _
  have hval : ∀ (j : Nat) t v, Tryz.f3.params[j]? = some t → args[j]? = some v → Value.okWide Tryz.prog W .any base t v := hval0
  have hL : laidMet Tryz.prog Rows.fnOpen15Row.laid W := by
    have h := hL0
    rw [MakeChecks.laidMetH_plain _ _ _ (by kernel_rfl)] at h
    exact h
  have hW' := hW
  obtain ⟨p, q, hA0, hV0, rfl, hfz, hnd⟩ := hW
  have hA : DataW.TrodAll enc Tryz.prog W 0 (fun _ => true) true Tryz.f3.params.toList args.toList ds p := hA0
  have hV : DataW.TrodVars enc Tryz.prog W (fun _ => true) ["loop.example/pub-g03280/pub/rsa.ErrDecryption"] gs q := hV0
  rw [Tryz.params3] at hA hval
  obtain ⟨v0, vs0, d0, ds0, p0, q0, hargs, rfl, rfl, h0, r0⟩ := trodAll_cons hA
  obtain ⟨v1, vs1, d1, ds1, p1, q1, rfl, rfl, rfl, h1, r1⟩ := trodAll_cons r0
  obtain ⟨v2, vs2, d2, ds2, p2, q2, rfl, rfl, rfl, h2, r2⟩ := trodAll_cons r1
  obtain ⟨v3, vs3, d3, ds3, p3, q3, rfl, rfl, rfl, h3, r3⟩ := trodAll_cons r2
  obtain ⟨rfl, rfl, rfl⟩ := trodAll_nil r3
  obtain rfl : args = #[v0, v1, v2, v3] := by cases args; simp_all
  obtain ⟨a1, s1, hv1, hc1, hs1, hz1⟩ := laid_sentinel hL gErr gType Tryz.underlying52 rowE Tryz.underlying149 Tryz.underlying151 rfl rfl Tryz.underlying9 cellsE cellsS
  obtain ⟨rfl, rfl⟩ := hV.unique (vars_read1 enc gErr gType Tryz.underlying52 hv1 trivial _)
  have hG : W.cell? ⟨0, 0, none⟩ = some (.iface 149 (.pointer (some a1))) := by simpa using World.var?_cell gErr hv1 0
  obtain ⟨a0, rfl, rfl, rfl, w0⟩ := open_int Tryz.underlying5 (hval 0 5 v0 rfl rfl) h0
  obtain ⟨b0, rfl, rfl, rfl, w1⟩ := open_int Tryz.underlying5 (hval 1 5 v1 rfl rfl) h1
  obtain ⟨c0, rfl, rfl, rfl, w2⟩ := open_int Tryz.underlying22 (hval 2 22 v2 rfl rfl) h2
  obtain ⟨a3, len3, cap3, rfl⟩ := okWide_slice Tryz.underlying23 (hval 3 23 v3 rfl rfl)
  have ok3 : Value.okWide Tryz.prog W .any base 23 (.slice a3 len3 cap3) := hval 3 23 _ rfl rfl
  have k3 := h3
  have lt3 : ∀ x ∈ p3, x.block < W.heap.size := by obtain ⟨m, hm⟩ := k3; exact DataW.trod_lt m _ _ _ hm
  obtain ⟨z3, w3⟩ : ∃ zs, IsRow .u8 W a3 len3 cap3 zs := by
    obtain ⟨fuel, hf⟩ := h3
    rcases open_ints Tryz.underlying23 Tryz.underlying5 (by kernel_rfl) hf with ⟨hcs, _⟩ | ⟨x, l, c, zs, hcs, _, hl, hm, hz, _, hcell, hwz⟩
    · simp [Value.cells] at hcs
      obtain ⟨rfl, rfl, rfl⟩ := hcs
      exact ⟨[], .inl ⟨rfl, rfl, rfl, rfl⟩⟩
    · simp [Value.cells] at hcs
      obtain ⟨rfl, rfl, rfl⟩ := hcs
      exact ⟨zs, .inr ⟨_, rfl, hl, hm, by simpa using hz, hcell, hwz⟩⟩
  have hlt3 : ∀ b o n c, Value.slice a3 len3 cap3 = sl b o n c → b < W.heap.size := by
    intro b o n c e
    rw [e] at ok3
    simp only [Value.okWide, Tryz.underlying23, Cell.okWide, Cell.ok] at ok3
    obtain ⟨_, _, _, _, row, cells, hsh, _⟩ := ok3
    rcases Nat.lt_or_ge b W.heap.size with h | h
    · exact h
    · simp [World.shape?, Array.getElem?_eq_none h] at hsh
  clear hA0 hval0
  refine (walk a0 b0 c0 a3 len3 cap3 z3 W _ _ w0 w1 w2 w3 hlt3 hG).mono fun e W' ⟨he, bel⟩ => ?_
  subst he
  exact ⟨_, rfl, _, _, _, [], _, [.cell 0 0], hW', trodAll_mk1 (shut_bool Tryz.underlying4 _),
    (trodAll_cons_mk (shut_int Tryz.underlying5 w0) (trodAll_cons_mk (shut_int Tryz.underlying5 w1) (trodAll_cons_mk (shut_int Tryz.underlying22 w2) (trodAll_cons_mk (Below.trod laidOut (by kernel_rfl) (of_decide_eq_true (by kernel_rfl)) k3 bel lt3) trodAll_mk0)))),
    vars_read1 enc gErr gType Tryz.underlying52 (var?_below bel hv1) trivial _, bel.frame _, fun h => by cases h⟩

theorem over : Rows.FnOpen15Said :=
  OpenClaim.holds_of_wide 3 Tryz.f3 rfl rfl rfl rfl rfl rfl rfl ⟨rfl, rfl, rfl, rfl, rfl⟩ rfl rfl rfl rfl rfl (by kernel_rfl) Tryz.func3 (by kernel_rfl)
    (of_decide_eq_true (by kernel_rfl)) (by unfold Func.isWrapper; first | (rw [if_pos (by decide +kernel)]; kernel_rfl) | (rw [if_neg (by decide +kernel)]; exact ⟨rfl, rfl⟩))
    (fun os started H enc _ => lifted os started H enc)
end Go.Proofs.YtkhopfobjijnlaaGreatDoor.fnOpen15
namespace Go.Proofs.YtkhopfobjijnlaaGreatDoor
/-- The row. -/
theorem fnOpen15_holds : Rows.FnOpen15Said := fnOpen15.over
/-- The statement: the tied card. -/
theorem fnOpen15Card_holds : Rows.FnOpen15CardSaid :=
  Claim7.holds_tied_plain_at .later [] [.sentinel] true (true, "6926a8d25d3a18b822de0b5d5f3a9f35674bec2c0c387012933924f022f82577") false
    fnOpen15_holds (fun _ h => by cases h) (by kernel_rfl) (fun _ h => by cases h) fnOpen15_row_tie rfl ⟨rfl, rfl⟩ (by kernel_rfl) rfl
    (fun f fn hf hfn => by
      obtain rfl : f = 3 := Option.some.inj ((show Tryz.prog.funcNamed "loop.example/pub-g03280/laws.FnOpen15" = some 3 by kernel_rfl).symm.trans hf) |>.symm
      obtain rfl : fn = Tryz.f3 := (Option.some.inj (Tryz.func3.symm.trans hfn)).symm
      exact ⟨by kernel_rfl, fun j t ht => by
        rw [Tryz.params3] at ht
        have hm : t ∈ [5, 5, 22, 23] := by simpa using Array.mem_of_getElem? ht
        have hall : ([5, 5, 22, 23].all fun u => !Tryz.prog.wantsStandIn u) = true := by kernel_rfl
        exact (show Tryz.prog.wantsStandIn t = false by simpa using List.all_eq_true.1 hall t hm)⟩)
    (by kernel_rfl)
#print axioms fnOpen15Card_holds
end Go.Proofs.YtkhopfobjijnlaaGreatDoor
