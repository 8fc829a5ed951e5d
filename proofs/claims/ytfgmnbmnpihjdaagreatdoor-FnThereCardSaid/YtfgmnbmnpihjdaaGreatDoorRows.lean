/-
  NARROWER THAN 'FOR EVERY INPUT', by the rows' own cells (each row's printed sentence says how): FnThere: ifaces, laid.
  DERIVED. THE GIVEN ROWS OF THIS SEAT. 1 by the template 'for every input the law returns true; each argument reads behind the call as it read before'; 0 by the template 'total and deterministic' (their statements: YtfgmnbmnpihjdaaGreatDoorTotals.lean).
  GIVEN WITH THE SEED: the statements are not yours to turn. If you find one false, say at which input.
  Laid BY PROGRAM, IN A SANDBOX (cutbox-rows.mjs): the forced cells as the released guide's own fill.sh prints them over the translation 67f44451f19296ac… (all of the seat's roots in one cut). By AI agents, Wed Nov 11 2026. No macro, syntax, notation, axiom, sorry.
-/
import Derived.Test.YtfgmnbmnpihjdaaGreatDoorChecked
import GoSem.Claim
import GoSem.ClaimJoined
import GoSem.ClaimMapViews
import Derived.JoinedTies
import Derived.KernelRfl
namespace Go.Proofs.YtfgmnbmnpihjdaaGreatDoor
/- THE CELL 'sum', in the pinned program and in every row, IS THE sha256 OF THE DUMP (.gsa) THAT YtfgmnbmnpihjdaaGreatDoorProg.lean LOADS. Nothing in Lean hashes anything: it is a label: what it is worth is what the hold of that sum in a sandbox is worth. -/
noncomputable def Tryz.pinned : Pinned := { name := "ytfgmnbmnpihjdaagreatdoor", sum := "67f44451f19296ac75c73ae7f7175631e6789df4d3a33145b4c37e3c12543062", checked := Tryz.checked }
namespace Rows
def none {H : Type} : Left H := { results := [], args := [] }

/- WHAT THE LISTED PACKAGE-LEVEL VARIABLES READ AS WHEN THE CALL BEGINS. Each datum BY PROGRAM (the guide's laid-datum.mjs) off the statement by which the dump's own 'gosem.cut.vars' lays the variable. In a bare row this is a premise. The card (YtfgmnbmnpihjdaaGreatDoorCards.lean) ties it to the program's text. -/
def laid_io_ErrShortBuffer {H : Type} : DataW H := .iface "*errors.errorString" (.ptr (.agg [.lit (.string [115, 104, 111, 114, 116, 32, 98, 117, 102, 102, 101, 114])]))
def laid_io_EOF {H : Type} : DataW H := .iface "*errors.errorString" (.ptr (.agg [.lit (.string [69, 79, 70])]))
def laid_io_ErrUnexpectedEOF {H : Type} : DataW H := .iface "*errors.errorString" (.ptr (.agg [.lit (.string [117, 110, 101, 120, 112, 101, 99, 116, 101, 100, 32, 69, 79, 70])]))
def laid_loop_example_pub_g03280_pub_rsa_ErrMessageTooLong {H : Type} : DataW H := .iface "*errors.errorString" (.ptr (.agg [.lit (.string [99, 114, 121, 112, 116, 111, 47, 114, 115, 97, 58, 32, 109, 101, 115, 115, 97, 103, 101, 32, 116, 111, 111, 32, 108, 111, 110, 103, 32, 102, 111, 114, 32, 82, 83, 65, 32, 107, 101, 121, 32, 115, 105, 122, 101])]))
def laid_loop_example_pub_g03280_pub_rsa_ErrDecryption {H : Type} : DataW H := .iface "*errors.errorString" (.ptr (.agg [.lit (.string [99, 114, 121, 112, 116, 111, 47, 114, 115, 97, 58, 32, 100, 101, 99, 114, 121, 112, 116, 105, 111, 110, 32, 101, 114, 114, 111, 114])]))

/-- 'laws.FnThere': WHATEVER THE INPUT: true; the input reads as it did. -/
def fnThereSpec : ChangeSpec := { name := "fnThere", vars := ["loop.example/pub-g03280/pub/rsa.ErrMessageTooLong", "loop.example/pub-g03280/pub/rsa.ErrDecryption"], fn := fun _ => fun
  | [d1, d2, d3, d4, d5, d6, d7, g1, g2] => { results := [.lit (.bool true)], args := [d1, d2, d3, d4, d5, d6, d7], vars := [g1, g2] }
  | _ => none }
def fnThereRow : OpenClaim := { program := "ytfgmnbmnpihjdaagreatdoor", sum := "67f44451f19296ac75c73ae7f7175631e6789df4d3a33145b4c37e3c12543062", func := "loop.example/pub-g03280/laws.FnThere", spec := "fnThere", inPlace := ["math/bits.Sub64", "math/bits.Add64"], unfollowed := true, recurses := true, named := ["loop.example/pub-g03280/pub/rsa.ErrMessageTooLong", "io.ErrShortBuffer", "io.EOF", "io.ErrUnexpectedEOF", "loop.example/pub-g03280/pub/rsa.ErrDecryption"], ifaces := true, apart := false, laid := [("io.ErrShortBuffer", laid_io_ErrShortBuffer), ("io.EOF", laid_io_EOF), ("io.ErrUnexpectedEOF", laid_io_ErrUnexpectedEOF), ("loop.example/pub-g03280/pub/rsa.ErrMessageTooLong", laid_loop_example_pub_g03280_pub_rsa_ErrMessageTooLong), ("loop.example/pub-g03280/pub/rsa.ErrDecryption", laid_loop_example_pub_g03280_pub_rsa_ErrDecryption)] }
def FnThereSaid : Prop := fnThereRow.holds Tryz.pinned (OpenSpec.ofChange fnThereSpec)

/-- ITS FALSE NEIGHBOUR: 'it returns false'. Refute it at one input. -/
def fnThereWrong : ChangeSpec := { name := "fnThere", vars := ["loop.example/pub-g03280/pub/rsa.ErrMessageTooLong", "loop.example/pub-g03280/pub/rsa.ErrDecryption"], fn := fun _ => fun
  | [d1, d2, d3, d4, d5, d6, d7, g1, g2] => { results := [.lit (.bool false)], args := [d1, d2, d3, d4, d5, d6, d7], vars := [g1, g2] }
  | _ => none }
def FnThereWrongFalsely : Prop := fnThereRow.holds Tryz.pinned (OpenSpec.ofChange fnThereWrong)

/- THE SECOND FORM. 'bulk': how many values and letters a reading holds, each counted each time it is reached (what is shared counts as often as it is met; a slice's spare places count too). A statement '..UptoSaid' is the law's where the arguments, and the package variables that the reading takes, are together of bulk at most 1048576: NARROWER than '..Said'. Prove '..Said' where nothing that the law and all that it calls make is longer than what came in: it says more and counts as full. Else prove '..UptoSaid'. A law counts once. -/
mutual
def uptoBulk {H : Type} : DataW H → Nat
  | .lit (.string bytes) => bytes.length + 1
  | .lit _ => 1
  | .nil => 1
  | .ptr d => uptoBulk d + 1
  | .slice elems spare => uptoBulkAll elems + uptoBulkAll spare + 1
  | .agg parts => uptoBulkAll parts + 1
  | .iface _ d => uptoBulk d + 1
  | .map entries => uptoBulkEntries entries + 1
  | .held _ => 1
def uptoBulkAll {H : Type} : List (DataW H) → Nat
  | [] => 0
  | d :: r => uptoBulk d + uptoBulkAll r
def uptoBulkEntries {H : Type} : List (Lit × DataW H) → Nat
  | [] => 0
  | x :: r => uptoBulkEntry x + uptoBulkEntries r
def uptoBulkEntry {H : Type} : Lit × DataW H → Nat
  | (.string bytes, d) => bytes.length + uptoBulk d + 1
  | (_, d) => uptoBulk d + 1
 end
def uptoSmall : (H : Type) → List (DataW H) → Bool := fun _ ds => decide (uptoBulkAll ds ≤ 1048576)
def OpenSpec.upto (s : _root_.Go.ChangeSpec) : _root_.Go.OpenSpec := { _root_.Go.OpenSpec.ofChange s with cond := some uptoSmall }

/-- 'laws.FnThere', WHERE WHAT IT READS IS OF BULK AT MOST 1048576: true; the input reads as it did. -/
def fnThereUptoRow : OpenClaim := { program := "ytfgmnbmnpihjdaagreatdoor", sum := "67f44451f19296ac75c73ae7f7175631e6789df4d3a33145b4c37e3c12543062", func := "loop.example/pub-g03280/laws.FnThere", spec := "fnThere", inPlace := ["math/bits.Sub64", "math/bits.Add64"], unfollowed := true, recurses := true, named := ["loop.example/pub-g03280/pub/rsa.ErrMessageTooLong", "io.ErrShortBuffer", "io.EOF", "io.ErrUnexpectedEOF", "loop.example/pub-g03280/pub/rsa.ErrDecryption"], ifaces := true, apart := false, laid := [("io.ErrShortBuffer", laid_io_ErrShortBuffer), ("io.EOF", laid_io_EOF), ("io.ErrUnexpectedEOF", laid_io_ErrUnexpectedEOF), ("loop.example/pub-g03280/pub/rsa.ErrMessageTooLong", laid_loop_example_pub_g03280_pub_rsa_ErrMessageTooLong), ("loop.example/pub-g03280/pub/rsa.ErrDecryption", laid_loop_example_pub_g03280_pub_rsa_ErrDecryption)], narrowed := true }
def FnThereUptoSaid : Prop := fnThereUptoRow.holds Tryz.pinned (OpenSpec.upto fnThereSpec)

end Rows
end Go.Proofs.YtfgmnbmnpihjdaaGreatDoor
