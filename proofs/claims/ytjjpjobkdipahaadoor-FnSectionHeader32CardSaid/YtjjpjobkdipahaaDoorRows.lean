/-
  NARROWER THAN 'FOR EVERY INPUT', by the rows' own cells (each row's printed sentence says how): FnSectionHeader32: laid · FnSectionHeader64: laid.
  DERIVED. THE GIVEN ROWS OF THIS SEAT. 2 by the template 'for every input the law returns true; each argument reads behind the call as it read before'; 0 by the template 'total and deterministic' (their statements: YtjjpjobkdipahaaDoorTotals.lean).
  GIVEN WITH THE SEED: the statements are not yours to turn. If you find one false, say at which input.
  Laid BY PROGRAM, IN A SANDBOX (cutbox-rows.mjs): the forced cells as the released guide's own fill.sh prints them over the translation 9260f0cbd9a296a5… (all of the seat's roots in one cut). By AI agents, Wed Nov 11 2026. No macro, syntax, notation, axiom, sorry.
-/
import Derived.Test.YtjjpjobkdipahaaDoorChecked
import GoSem.Claim
import GoSem.ClaimJoined
import GoSem.ClaimMapViews
import Derived.JoinedTies
import Derived.KernelRfl
namespace Go.Proofs.YtjjpjobkdipahaaDoor
/- THE CELL 'sum', in the pinned program and in every row, IS THE sha256 OF THE DUMP (.gsa) THAT YtjjpjobkdipahaaDoorProg.lean LOADS. Nothing in Lean hashes anything: it is a label: what it is worth is what the hold of that sum in a sandbox is worth. -/
noncomputable def Tryd.pinned : Pinned := { name := "ytjjpjobkdipahaadoor", sum := "9260f0cbd9a296a54ad0dc356695a7766db52f4f1216d7219e3377b844912da2", checked := Tryd.checked }
namespace Rows
def none {H : Type} : Left H := { results := [], args := [] }

/- WHAT THE LISTED PACKAGE-LEVEL VARIABLES READ AS WHEN THE CALL BEGINS. Each datum BY PROGRAM (the guide's laid-datum.mjs) off the statement by which the dump's own 'gosem.cut.vars' lays the variable. In a bare row this is a premise. The card (YtjjpjobkdipahaaDoorCards.lean) ties it to the program's text. -/
def laid_io_ErrShortBuffer {H : Type} : DataW H := .iface "*errors.errorString" (.ptr (.agg [.lit (.string [115, 104, 111, 114, 116, 32, 98, 117, 102, 102, 101, 114])]))
def laid_io_EOF {H : Type} : DataW H := .iface "*errors.errorString" (.ptr (.agg [.lit (.string [69, 79, 70])]))
def laid_io_ErrUnexpectedEOF {H : Type} : DataW H := .iface "*errors.errorString" (.ptr (.agg [.lit (.string [117, 110, 101, 120, 112, 101, 99, 116, 101, 100, 32, 69, 79, 70])]))

/-- 'laws.FnSectionHeader32': WHATEVER THE INPUT: true; the input reads as it did. -/
def fnSectionHeader32Spec : ChangeSpec := { name := "fnSectionHeader32", fn := fun _ => fun
  | [d] => { results := [.lit (.bool true)], args := [d] }
  | _ => none }
def fnSectionHeader32Row : OpenClaim := { program := "ytjjpjobkdipahaadoor", sum := "9260f0cbd9a296a54ad0dc356695a7766db52f4f1216d7219e3377b844912da2", func := "loop.example/pub-g03341/laws.FnSectionHeader32", spec := "fnSectionHeader32", unfollowed := true, recurses := true, named := ["io.ErrShortBuffer", "io.EOF", "io.ErrUnexpectedEOF"], apart := false, laid := [("io.ErrShortBuffer", laid_io_ErrShortBuffer), ("io.EOF", laid_io_EOF), ("io.ErrUnexpectedEOF", laid_io_ErrUnexpectedEOF)] }
def FnSectionHeader32Said : Prop := fnSectionHeader32Row.holds Tryd.pinned (OpenSpec.ofChange fnSectionHeader32Spec)

/-- ITS FALSE NEIGHBOUR: 'it returns false'. Refute it at one input. -/
def fnSectionHeader32Wrong : ChangeSpec := { name := "fnSectionHeader32", fn := fun _ => fun
  | [d] => { results := [.lit (.bool false)], args := [d] }
  | _ => none }
def FnSectionHeader32WrongFalsely : Prop := fnSectionHeader32Row.holds Tryd.pinned (OpenSpec.ofChange fnSectionHeader32Wrong)

/-- 'laws.FnSectionHeader64': WHATEVER THE INPUT: true; the input reads as it did. -/
def fnSectionHeader64Spec : ChangeSpec := { name := "fnSectionHeader64", fn := fun _ => fun
  | [d] => { results := [.lit (.bool true)], args := [d] }
  | _ => none }
def fnSectionHeader64Row : OpenClaim := { program := "ytjjpjobkdipahaadoor", sum := "9260f0cbd9a296a54ad0dc356695a7766db52f4f1216d7219e3377b844912da2", func := "loop.example/pub-g03341/laws.FnSectionHeader64", spec := "fnSectionHeader64", unfollowed := true, recurses := true, named := ["io.ErrShortBuffer", "io.EOF", "io.ErrUnexpectedEOF"], apart := false, laid := [("io.ErrShortBuffer", laid_io_ErrShortBuffer), ("io.EOF", laid_io_EOF), ("io.ErrUnexpectedEOF", laid_io_ErrUnexpectedEOF)] }
def FnSectionHeader64Said : Prop := fnSectionHeader64Row.holds Tryd.pinned (OpenSpec.ofChange fnSectionHeader64Spec)

/-- ITS FALSE NEIGHBOUR: 'it returns false'. Refute it at one input. -/
def fnSectionHeader64Wrong : ChangeSpec := { name := "fnSectionHeader64", fn := fun _ => fun
  | [d] => { results := [.lit (.bool false)], args := [d] }
  | _ => none }
def FnSectionHeader64WrongFalsely : Prop := fnSectionHeader64Row.holds Tryd.pinned (OpenSpec.ofChange fnSectionHeader64Wrong)

/- THE SECOND FORM. 'bulk': how many values and letters a reading holds, each counted each time it is reached (what is shared counts as often as it is met; a slice's spare places count too). A statement '..UptoSaid' is the law's where the arguments, and the package variables that the reading takes, are together of bulk at most 1048576: NARROWER than '..Said'. Prove '..Said' where nothing that the law and all that it calls make is longer than what came in: it says more and counts as full. Else prove '..UptoSaid'. A law counts once. -/
mutual
def uptoBulk {H : Type} : DataW H → Nat
  | .lit (.string bytes) => bytes.length + 1
  | .lit _ => 1
  | .nil => 1
  | .ptr d => uptoBulk d + 1
  | .slice elems spare => uptoBulkAll elems + uptoBulkAll spare + 1
  | .agg parts => uptoBulkAll parts + 1
  | .iface _ d => uptoBulk d + 1
  | .map entries => uptoBulkEntries entries + 1
  | .held _ => 1
def uptoBulkAll {H : Type} : List (DataW H) → Nat
  | [] => 0
  | d :: r => uptoBulk d + uptoBulkAll r
def uptoBulkEntries {H : Type} : List (Lit × DataW H) → Nat
  | [] => 0
  | x :: r => uptoBulkEntry x + uptoBulkEntries r
def uptoBulkEntry {H : Type} : Lit × DataW H → Nat
  | (.string bytes, d) => bytes.length + uptoBulk d + 1
  | (_, d) => uptoBulk d + 1
 end
def uptoSmall : (H : Type) → List (DataW H) → Bool := fun _ ds => decide (uptoBulkAll ds ≤ 1048576)
def OpenSpec.upto (s : _root_.Go.ChangeSpec) : _root_.Go.OpenSpec := { _root_.Go.OpenSpec.ofChange s with cond := some uptoSmall }

/-- 'laws.FnSectionHeader32', WHERE WHAT IT READS IS OF BULK AT MOST 1048576: true; the input reads as it did. -/
def fnSectionHeader32UptoRow : OpenClaim := { program := "ytjjpjobkdipahaadoor", sum := "9260f0cbd9a296a54ad0dc356695a7766db52f4f1216d7219e3377b844912da2", func := "loop.example/pub-g03341/laws.FnSectionHeader32", spec := "fnSectionHeader32", unfollowed := true, recurses := true, named := ["io.ErrShortBuffer", "io.EOF", "io.ErrUnexpectedEOF"], apart := false, laid := [("io.ErrShortBuffer", laid_io_ErrShortBuffer), ("io.EOF", laid_io_EOF), ("io.ErrUnexpectedEOF", laid_io_ErrUnexpectedEOF)], narrowed := true }
def FnSectionHeader32UptoSaid : Prop := fnSectionHeader32UptoRow.holds Tryd.pinned (OpenSpec.upto fnSectionHeader32Spec)

/-- 'laws.FnSectionHeader64', WHERE WHAT IT READS IS OF BULK AT MOST 1048576: true; the input reads as it did. -/
def fnSectionHeader64UptoRow : OpenClaim := { program := "ytjjpjobkdipahaadoor", sum := "9260f0cbd9a296a54ad0dc356695a7766db52f4f1216d7219e3377b844912da2", func := "loop.example/pub-g03341/laws.FnSectionHeader64", spec := "fnSectionHeader64", unfollowed := true, recurses := true, named := ["io.ErrShortBuffer", "io.EOF", "io.ErrUnexpectedEOF"], apart := false, laid := [("io.ErrShortBuffer", laid_io_ErrShortBuffer), ("io.EOF", laid_io_EOF), ("io.ErrUnexpectedEOF", laid_io_ErrUnexpectedEOF)], narrowed := true }
def FnSectionHeader64UptoSaid : Prop := fnSectionHeader64UptoRow.holds Tryd.pinned (OpenSpec.upto fnSectionHeader64Spec)

end Rows
end Go.Proofs.YtjjpjobkdipahaaDoor
