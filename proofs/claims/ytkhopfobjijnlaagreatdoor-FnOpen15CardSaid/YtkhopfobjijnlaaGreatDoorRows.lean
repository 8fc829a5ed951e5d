/-
  NARROWER THAN 'FOR EVERY INPUT', by the rows' own cells (each row's printed sentence says how): FnOpen15: ifaces, laid.
  DERIVED. THE GIVEN ROWS OF THIS SEAT. 1 by the template 'for every input the law returns true; each argument reads behind the call as it read before'; 0 by the template 'total and deterministic' (their statements: YtkhopfobjijnlaaGreatDoorTotals.lean).
  GIVEN WITH THE SEED: the statements are not yours to turn. If you find one false, say at which input.
  Laid BY PROGRAM, IN A SANDBOX (cutbox-rows.mjs): the forced cells as the released guide's own fill.sh prints them over the translation c5dfc474c74a94fd… (all of the seat's roots in one cut). By AI agents, Wed Nov 11 2026. No macro, syntax, notation, axiom, sorry.
-/
import Derived.Test.YtkhopfobjijnlaaGreatDoorChecked
import GoSem.Claim
import GoSem.ClaimJoined
import GoSem.ClaimMapViews
import Derived.JoinedTies
import Derived.KernelRfl
namespace Go.Proofs.YtkhopfobjijnlaaGreatDoor
/- THE CELL 'sum', in the pinned program and in every row, IS THE sha256 OF THE DUMP (.gsa) THAT YtkhopfobjijnlaaGreatDoorProg.lean LOADS. Nothing in Lean hashes anything: it is a label: what it is worth is what the hold of that sum in a sandbox is worth. -/
noncomputable def Tryz.pinned : Pinned := { name := "ytkhopfobjijnlaagreatdoor", sum := "c5dfc474c74a94fd8359658c8b84309d64138f6a198acd59fbb49fe6d3f6ee96", checked := Tryz.checked }
namespace Rows
def none {H : Type} : Left H := { results := [], args := [] }

/- WHAT THE LISTED PACKAGE-LEVEL VARIABLES READ AS WHEN THE CALL BEGINS. Each datum BY PROGRAM (the guide's laid-datum.mjs) off the statement by which the dump's own 'gosem.cut.vars' lays the variable. In a bare row this is a premise. The card (YtkhopfobjijnlaaGreatDoorCards.lean) ties it to the program's text. -/
def laid_loop_example_pub_g03280_pub_rsa_ErrDecryption {H : Type} : DataW H := .iface "*errors.errorString" (.ptr (.agg [.lit (.string [99, 114, 121, 112, 116, 111, 47, 114, 115, 97, 58, 32, 100, 101, 99, 114, 121, 112, 116, 105, 111, 110, 32, 101, 114, 114, 111, 114])]))

/-- 'laws.FnOpen15': WHATEVER THE INPUT: true; the input reads as it did. -/
def fnOpen15Spec : ChangeSpec := { name := "fnOpen15", vars := ["loop.example/pub-g03280/pub/rsa.ErrDecryption"], fn := fun _ => fun
  | [d1, d2, d3, d4, g1] => { results := [.lit (.bool true)], args := [d1, d2, d3, d4], vars := [g1] }
  | _ => none }
def fnOpen15Row : OpenClaim := { program := "ytkhopfobjijnlaagreatdoor", sum := "c5dfc474c74a94fd8359658c8b84309d64138f6a198acd59fbb49fe6d3f6ee96", func := "loop.example/pub-g03280/laws.FnOpen15", spec := "fnOpen15", inPlace := ["math/bits.Sub64", "math/bits.Add64"], named := ["loop.example/pub-g03280/pub/rsa.ErrDecryption"], ifaces := true, apart := false, laid := [("loop.example/pub-g03280/pub/rsa.ErrDecryption", laid_loop_example_pub_g03280_pub_rsa_ErrDecryption)] }
def FnOpen15Said : Prop := fnOpen15Row.holds Tryz.pinned (OpenSpec.ofChange fnOpen15Spec)

/-- ITS FALSE NEIGHBOUR: 'it returns false'. Refute it at one input. -/
def fnOpen15Wrong : ChangeSpec := { name := "fnOpen15", vars := ["loop.example/pub-g03280/pub/rsa.ErrDecryption"], fn := fun _ => fun
  | [d1, d2, d3, d4, g1] => { results := [.lit (.bool false)], args := [d1, d2, d3, d4], vars := [g1] }
  | _ => none }
def FnOpen15WrongFalsely : Prop := fnOpen15Row.holds Tryz.pinned (OpenSpec.ofChange fnOpen15Wrong)

/- THE SECOND FORM. 'bulk': how many values and letters a reading holds, each counted each time it is reached (what is shared counts as often as it is met; a slice's spare places count too). A statement '..UptoSaid' is the law's where the arguments, and the package variables that the reading takes, are together of bulk at most 1048576: NARROWER than '..Said'. Prove '..Said' where nothing that the law and all that it calls make is longer than what came in: it says more and counts as full. Else prove '..UptoSaid'. A law counts once. -/
mutual
def uptoBulk {H : Type} : DataW H → Nat
  | .lit (.string bytes) => bytes.length + 1
  | .lit _ => 1
  | .nil => 1
  | .ptr d => uptoBulk d + 1
  | .slice elems spare => uptoBulkAll elems + uptoBulkAll spare + 1
  | .agg parts => uptoBulkAll parts + 1
  | .iface _ d => uptoBulk d + 1
  | .map entries => uptoBulkEntries entries + 1
  | .held _ => 1
def uptoBulkAll {H : Type} : List (DataW H) → Nat
  | [] => 0
  | d :: r => uptoBulk d + uptoBulkAll r
def uptoBulkEntries {H : Type} : List (Lit × DataW H) → Nat
  | [] => 0
  | x :: r => uptoBulkEntry x + uptoBulkEntries r
def uptoBulkEntry {H : Type} : Lit × DataW H → Nat
  | (.string bytes, d) => bytes.length + uptoBulk d + 1
  | (_, d) => uptoBulk d + 1
 end
def uptoSmall : (H : Type) → List (DataW H) → Bool := fun _ ds => decide (uptoBulkAll ds ≤ 1048576)
def OpenSpec.upto (s : _root_.Go.ChangeSpec) : _root_.Go.OpenSpec := { _root_.Go.OpenSpec.ofChange s with cond := some uptoSmall }

/-- 'laws.FnOpen15', WHERE WHAT IT READS IS OF BULK AT MOST 1048576: true; the input reads as it did. -/
def fnOpen15UptoRow : OpenClaim := { program := "ytkhopfobjijnlaagreatdoor", sum := "c5dfc474c74a94fd8359658c8b84309d64138f6a198acd59fbb49fe6d3f6ee96", func := "loop.example/pub-g03280/laws.FnOpen15", spec := "fnOpen15", inPlace := ["math/bits.Sub64", "math/bits.Add64"], named := ["loop.example/pub-g03280/pub/rsa.ErrDecryption"], ifaces := true, apart := false, laid := [("loop.example/pub-g03280/pub/rsa.ErrDecryption", laid_loop_example_pub_g03280_pub_rsa_ErrDecryption)], narrowed := true }
def FnOpen15UptoSaid : Prop := fnOpen15UptoRow.holds Tryz.pinned (OpenSpec.upto fnOpen15Spec)

end Rows
end Go.Proofs.YtkhopfobjijnlaaGreatDoor
