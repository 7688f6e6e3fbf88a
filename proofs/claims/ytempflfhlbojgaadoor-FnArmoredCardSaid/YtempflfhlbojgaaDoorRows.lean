/-
  NARROWER THAN 'FOR EVERY INPUT', by the rows' own cells (each row's printed sentence says how): FnUnarmored: laid · FnArmored: laid.
  DERIVED. THE GIVEN ROWS OF THIS SEAT. 2 by the template 'for every input the law returns true; each argument reads behind the call as it read before'; 0 by the template 'total and deterministic' (their statements: YtempflfhlbojgaaDoorTotals.lean).
  GIVEN WITH THE SEED: the statements are not yours to turn. If you find one false, say at which input.
  Laid BY PROGRAM, IN A SANDBOX (cutbox-rows.mjs): the forced cells as the released guide's own fill.sh prints them over the translation 1ef5cc8a027515c3… (all of the seat's roots in one cut). By AI agents, Wed Nov 11 2026. No macro, syntax, notation, axiom, sorry.
-/
import Derived.Test.YtempflfhlbojgaaDoorChecked
import GoSem.Claim
import GoSem.ClaimJoined
import GoSem.ClaimMapViews
import Derived.JoinedTies
import Derived.KernelRfl
namespace Go.Proofs.YtempflfhlbojgaaDoor
/- THE CELL 'sum', in the pinned program and in every row, IS THE sha256 OF THE DUMP (.gsa) THAT YtempflfhlbojgaaDoorProg.lean LOADS. Nothing in Lean hashes anything: it is a label: what it is worth is what the hold of that sum in a sandbox is worth. -/
noncomputable def Tryd.pinned : Pinned := { name := "ytempflfhlbojgaadoor", sum := "1ef5cc8a027515c3c5ac9b83324dccf0697a704574ea1680f0f4424f06ac13fa", checked := Tryd.checked }
namespace Rows
def none {H : Type} : Left H := { results := [], args := [] }

/- WHAT THE LISTED PACKAGE-LEVEL VARIABLES READ AS WHEN THE CALL BEGINS. Each datum BY PROGRAM (the guide's laid-datum.mjs) off the statement by which the dump's own 'gosem.cut.vars' lays the variable. In a bare row this is a premise. The card (YtempflfhlbojgaaDoorCards.lean) ties it to the program's text. -/
def laid_io_EOF {H : Type} : DataW H := .iface "*errors.errorString" (.ptr (.agg [.lit (.string [69, 79, 70])]))
def laid_io_ErrShortWrite {H : Type} : DataW H := .iface "*errors.errorString" (.ptr (.agg [.lit (.string [115, 104, 111, 114, 116, 32, 119, 114, 105, 116, 101])]))
def laid_bytes_ErrTooLarge {H : Type} : DataW H := .iface "*errors.errorString" (.ptr (.agg [.lit (.string [98, 121, 116, 101, 115, 46, 66, 117, 102, 102, 101, 114, 58, 32, 116, 111, 111, 32, 108, 97, 114, 103, 101])]))

/-- 'laws.FnUnarmored': WHATEVER THE INPUT: true; the input reads as it did. -/
def fnUnarmoredSpec : ChangeSpec := { name := "fnUnarmored", fn := fun _ => fun
  | [d1, d2, d3, d4, d5] => { results := [.lit (.bool true)], args := [d1, d2, d3, d4, d5] }
  | _ => none }
def fnUnarmoredRow : OpenClaim := { program := "ytempflfhlbojgaadoor", sum := "1ef5cc8a027515c3c5ac9b83324dccf0697a704574ea1680f0f4424f06ac13fa", func := "given.example/pub-coffermaker/laws.FnUnarmored", spec := "fnUnarmored", unfollowed := true, recurses := true, named := ["io.EOF"], apart := false, laid := [("io.EOF", laid_io_EOF)] }
def FnUnarmoredSaid : Prop := fnUnarmoredRow.holds Tryd.pinned (OpenSpec.ofChange fnUnarmoredSpec)

/-- ITS FALSE NEIGHBOUR: 'it returns false'. Refute it at one input. -/
def fnUnarmoredWrong : ChangeSpec := { name := "fnUnarmored", fn := fun _ => fun
  | [d1, d2, d3, d4, d5] => { results := [.lit (.bool false)], args := [d1, d2, d3, d4, d5] }
  | _ => none }
def FnUnarmoredWrongFalsely : Prop := fnUnarmoredRow.holds Tryd.pinned (OpenSpec.ofChange fnUnarmoredWrong)

/-- 'laws.FnArmored': WHATEVER THE INPUT: true; the input reads as it did. -/
def fnArmoredSpec : ChangeSpec := { name := "fnArmored", fn := fun _ => fun
  | [d1, d2] => { results := [.lit (.bool true)], args := [d1, d2] }
  | _ => none }
def fnArmoredRow : OpenClaim := { program := "ytempflfhlbojgaadoor", sum := "1ef5cc8a027515c3c5ac9b83324dccf0697a704574ea1680f0f4424f06ac13fa", func := "given.example/pub-coffermaker/laws.FnArmored", spec := "fnArmored", unfollowed := true, recurses := true, named := ["io.EOF", "bytes.ErrTooLarge", "io.ErrShortWrite"], apart := false, laid := [("io.ErrShortWrite", laid_io_ErrShortWrite), ("io.EOF", laid_io_EOF), ("bytes.ErrTooLarge", laid_bytes_ErrTooLarge)] }
def FnArmoredSaid : Prop := fnArmoredRow.holds Tryd.pinned (OpenSpec.ofChange fnArmoredSpec)

/-- ITS FALSE NEIGHBOUR: 'it returns false'. Refute it at one input. -/
def fnArmoredWrong : ChangeSpec := { name := "fnArmored", fn := fun _ => fun
  | [d1, d2] => { results := [.lit (.bool false)], args := [d1, d2] }
  | _ => none }
def FnArmoredWrongFalsely : Prop := fnArmoredRow.holds Tryd.pinned (OpenSpec.ofChange fnArmoredWrong)

/- THE SECOND FORM. 'bulk': how many values and letters a reading holds, each counted each time it is reached (what is shared counts as often as it is met; a slice's spare places count too). A statement '..UptoSaid' is the law's where the arguments, and the package variables that the reading takes, are together of bulk at most 1048576: NARROWER than '..Said'. Prove '..Said' where nothing that the law and all that it calls make is longer than what came in: it says more and counts as full. Else prove '..UptoSaid'. A law counts once. -/
mutual
def uptoBulk {H : Type} : DataW H → Nat
  | .lit (.string bytes) => bytes.length + 1
  | .lit _ => 1
  | .nil => 1
  | .ptr d => uptoBulk d + 1
  | .slice elems spare => uptoBulkAll elems + uptoBulkAll spare + 1
  | .agg parts => uptoBulkAll parts + 1
  | .iface _ d => uptoBulk d + 1
  | .map entries => uptoBulkEntries entries + 1
  | .held _ => 1
def uptoBulkAll {H : Type} : List (DataW H) → Nat
  | [] => 0
  | d :: r => uptoBulk d + uptoBulkAll r
def uptoBulkEntries {H : Type} : List (Lit × DataW H) → Nat
  | [] => 0
  | x :: r => uptoBulkEntry x + uptoBulkEntries r
def uptoBulkEntry {H : Type} : Lit × DataW H → Nat
  | (.string bytes, d) => bytes.length + uptoBulk d + 1
  | (_, d) => uptoBulk d + 1
 end
def uptoSmall : (H : Type) → List (DataW H) → Bool := fun _ ds => decide (uptoBulkAll ds ≤ 1048576)
def OpenSpec.upto (s : _root_.Go.ChangeSpec) : _root_.Go.OpenSpec := { _root_.Go.OpenSpec.ofChange s with cond := some uptoSmall }

/-- 'laws.FnUnarmored', WHERE WHAT IT READS IS OF BULK AT MOST 1048576: true; the input reads as it did. -/
def fnUnarmoredUptoRow : OpenClaim := { program := "ytempflfhlbojgaadoor", sum := "1ef5cc8a027515c3c5ac9b83324dccf0697a704574ea1680f0f4424f06ac13fa", func := "given.example/pub-coffermaker/laws.FnUnarmored", spec := "fnUnarmored", unfollowed := true, recurses := true, named := ["io.EOF"], apart := false, laid := [("io.EOF", laid_io_EOF)], narrowed := true }
def FnUnarmoredUptoSaid : Prop := fnUnarmoredUptoRow.holds Tryd.pinned (OpenSpec.upto fnUnarmoredSpec)

/-- 'laws.FnArmored', WHERE WHAT IT READS IS OF BULK AT MOST 1048576: true; the input reads as it did. -/
def fnArmoredUptoRow : OpenClaim := { program := "ytempflfhlbojgaadoor", sum := "1ef5cc8a027515c3c5ac9b83324dccf0697a704574ea1680f0f4424f06ac13fa", func := "given.example/pub-coffermaker/laws.FnArmored", spec := "fnArmored", unfollowed := true, recurses := true, named := ["io.EOF", "bytes.ErrTooLarge", "io.ErrShortWrite"], apart := false, laid := [("io.ErrShortWrite", laid_io_ErrShortWrite), ("io.EOF", laid_io_EOF), ("bytes.ErrTooLarge", laid_bytes_ErrTooLarge)], narrowed := true }
def FnArmoredUptoSaid : Prop := fnArmoredUptoRow.holds Tryd.pinned (OpenSpec.upto fnArmoredSpec)

end Rows
end Go.Proofs.YtempflfhlbojgaaDoor
