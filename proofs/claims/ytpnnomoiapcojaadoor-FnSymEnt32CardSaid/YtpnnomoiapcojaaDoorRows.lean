/-
  NARROWER THAN 'FOR EVERY INPUT', by the rows' own cells (each row's printed sentence says how): FnSymEnt32: laid · FnSymEnt64: laid · FnFileHeader64: laid · FnLoaderSymbol32: laid · FnLoaderSymbol64: laid · FnLoaderHeader64: laid · FnSectionHeader32: laid · FnSectionHeader64: laid.
  DERIVED. THE GIVEN ROWS OF THIS SEAT. 8 by the template 'for every input the law returns true; each argument reads behind the call as it read before'; 0 by the template 'total and deterministic' (their statements: YtpnnomoiapcojaaDoorTotals.lean).
  GIVEN WITH THE SEED: the statements are not yours to turn. If you find one false, say at which input.
  Laid BY PROGRAM, IN A SANDBOX (cutbox-rows.mjs): the forced cells as the released guide's own fill.sh prints them over the translation d4a4d62c420abcc1… (all of the seat's roots in one cut). By AI agents, Wed Nov 11 2026. No macro, syntax, notation, axiom, sorry.
-/
import Derived.Test.YtpnnomoiapcojaaDoorChecked
import GoSem.Claim
import GoSem.ClaimJoined
import GoSem.ClaimMapViews
import Derived.JoinedTies
import Derived.KernelRfl
namespace Go.Proofs.YtpnnomoiapcojaaDoor
/- THE CELL 'sum', in the pinned program and in every row, IS THE sha256 OF THE DUMP (.gsa) THAT YtpnnomoiapcojaaDoorProg.lean LOADS. Nothing in Lean hashes anything: it is a label: what it is worth is what the hold of that sum in a sandbox is worth. -/
noncomputable def Tryd.pinned : Pinned := { name := "ytpnnomoiapcojaadoor", sum := "d4a4d62c420abcc1949a0f328085a0a518029f1fe15e837866d8606e97be793d", checked := Tryd.checked }
namespace Rows
def none {H : Type} : Left H := { results := [], args := [] }

/- WHAT THE LISTED PACKAGE-LEVEL VARIABLES READ AS WHEN THE CALL BEGINS. Each datum BY PROGRAM (the guide's laid-datum.mjs) off the statement by which the dump's own 'gosem.cut.vars' lays the variable. In a bare row this is a premise. The card (YtpnnomoiapcojaaDoorCards.lean) ties it to the program's text. -/
def laid_io_ErrShortBuffer {H : Type} : DataW H := .iface "*errors.errorString" (.ptr (.agg [.lit (.string [115, 104, 111, 114, 116, 32, 98, 117, 102, 102, 101, 114])]))
def laid_io_EOF {H : Type} : DataW H := .iface "*errors.errorString" (.ptr (.agg [.lit (.string [69, 79, 70])]))
def laid_io_ErrUnexpectedEOF {H : Type} : DataW H := .iface "*errors.errorString" (.ptr (.agg [.lit (.string [117, 110, 101, 120, 112, 101, 99, 116, 101, 100, 32, 69, 79, 70])]))

/-- 'laws.FnSymEnt32': WHATEVER THE INPUT: true; the input reads as it did. -/
def fnSymEnt32Spec : ChangeSpec := { name := "fnSymEnt32", fn := fun _ => fun
  | [d] => { results := [.lit (.bool true)], args := [d] }
  | _ => none }
def fnSymEnt32Row : OpenClaim := { program := "ytpnnomoiapcojaadoor", sum := "d4a4d62c420abcc1949a0f328085a0a518029f1fe15e837866d8606e97be793d", func := "loop.example/pub-g03341/laws.FnSymEnt32", spec := "fnSymEnt32", unfollowed := true, recurses := true, named := ["io.ErrShortBuffer", "io.EOF", "io.ErrUnexpectedEOF"], apart := false, laid := [("io.ErrShortBuffer", laid_io_ErrShortBuffer), ("io.EOF", laid_io_EOF), ("io.ErrUnexpectedEOF", laid_io_ErrUnexpectedEOF)] }
def FnSymEnt32Said : Prop := fnSymEnt32Row.holds Tryd.pinned (OpenSpec.ofChange fnSymEnt32Spec)

/-- ITS FALSE NEIGHBOUR: 'it returns false'. Refute it at one input. -/
def fnSymEnt32Wrong : ChangeSpec := { name := "fnSymEnt32", fn := fun _ => fun
  | [d] => { results := [.lit (.bool false)], args := [d] }
  | _ => none }
def FnSymEnt32WrongFalsely : Prop := fnSymEnt32Row.holds Tryd.pinned (OpenSpec.ofChange fnSymEnt32Wrong)

/-- 'laws.FnSymEnt64': WHATEVER THE INPUT: true; the input reads as it did. -/
def fnSymEnt64Spec : ChangeSpec := { name := "fnSymEnt64", fn := fun _ => fun
  | [d] => { results := [.lit (.bool true)], args := [d] }
  | _ => none }
def fnSymEnt64Row : OpenClaim := { program := "ytpnnomoiapcojaadoor", sum := "d4a4d62c420abcc1949a0f328085a0a518029f1fe15e837866d8606e97be793d", func := "loop.example/pub-g03341/laws.FnSymEnt64", spec := "fnSymEnt64", unfollowed := true, recurses := true, named := ["io.ErrShortBuffer", "io.EOF", "io.ErrUnexpectedEOF"], apart := false, laid := [("io.ErrShortBuffer", laid_io_ErrShortBuffer), ("io.EOF", laid_io_EOF), ("io.ErrUnexpectedEOF", laid_io_ErrUnexpectedEOF)] }
def FnSymEnt64Said : Prop := fnSymEnt64Row.holds Tryd.pinned (OpenSpec.ofChange fnSymEnt64Spec)

/-- ITS FALSE NEIGHBOUR: 'it returns false'. Refute it at one input. -/
def fnSymEnt64Wrong : ChangeSpec := { name := "fnSymEnt64", fn := fun _ => fun
  | [d] => { results := [.lit (.bool false)], args := [d] }
  | _ => none }
def FnSymEnt64WrongFalsely : Prop := fnSymEnt64Row.holds Tryd.pinned (OpenSpec.ofChange fnSymEnt64Wrong)

/-- 'laws.FnFileHeader64': WHATEVER THE INPUT: true; the input reads as it did. -/
def fnFileHeader64Spec : ChangeSpec := { name := "fnFileHeader64", fn := fun _ => fun
  | [d] => { results := [.lit (.bool true)], args := [d] }
  | _ => none }
def fnFileHeader64Row : OpenClaim := { program := "ytpnnomoiapcojaadoor", sum := "d4a4d62c420abcc1949a0f328085a0a518029f1fe15e837866d8606e97be793d", func := "loop.example/pub-g03341/laws.FnFileHeader64", spec := "fnFileHeader64", unfollowed := true, recurses := true, named := ["io.ErrShortBuffer", "io.EOF", "io.ErrUnexpectedEOF"], apart := false, laid := [("io.ErrShortBuffer", laid_io_ErrShortBuffer), ("io.EOF", laid_io_EOF), ("io.ErrUnexpectedEOF", laid_io_ErrUnexpectedEOF)] }
def FnFileHeader64Said : Prop := fnFileHeader64Row.holds Tryd.pinned (OpenSpec.ofChange fnFileHeader64Spec)

/-- ITS FALSE NEIGHBOUR: 'it returns false'. Refute it at one input. -/
def fnFileHeader64Wrong : ChangeSpec := { name := "fnFileHeader64", fn := fun _ => fun
  | [d] => { results := [.lit (.bool false)], args := [d] }
  | _ => none }
def FnFileHeader64WrongFalsely : Prop := fnFileHeader64Row.holds Tryd.pinned (OpenSpec.ofChange fnFileHeader64Wrong)

/-- 'laws.FnLoaderSymbol32': WHATEVER THE INPUT: true; the input reads as it did. -/
def fnLoaderSymbol32Spec : ChangeSpec := { name := "fnLoaderSymbol32", fn := fun _ => fun
  | [d] => { results := [.lit (.bool true)], args := [d] }
  | _ => none }
def fnLoaderSymbol32Row : OpenClaim := { program := "ytpnnomoiapcojaadoor", sum := "d4a4d62c420abcc1949a0f328085a0a518029f1fe15e837866d8606e97be793d", func := "loop.example/pub-g03341/laws.FnLoaderSymbol32", spec := "fnLoaderSymbol32", unfollowed := true, recurses := true, named := ["io.ErrShortBuffer", "io.EOF", "io.ErrUnexpectedEOF"], apart := false, laid := [("io.ErrShortBuffer", laid_io_ErrShortBuffer), ("io.EOF", laid_io_EOF), ("io.ErrUnexpectedEOF", laid_io_ErrUnexpectedEOF)] }
def FnLoaderSymbol32Said : Prop := fnLoaderSymbol32Row.holds Tryd.pinned (OpenSpec.ofChange fnLoaderSymbol32Spec)

/-- ITS FALSE NEIGHBOUR: 'it returns false'. Refute it at one input. -/
def fnLoaderSymbol32Wrong : ChangeSpec := { name := "fnLoaderSymbol32", fn := fun _ => fun
  | [d] => { results := [.lit (.bool false)], args := [d] }
  | _ => none }
def FnLoaderSymbol32WrongFalsely : Prop := fnLoaderSymbol32Row.holds Tryd.pinned (OpenSpec.ofChange fnLoaderSymbol32Wrong)

/-- 'laws.FnLoaderSymbol64': WHATEVER THE INPUT: true; the input reads as it did. -/
def fnLoaderSymbol64Spec : ChangeSpec := { name := "fnLoaderSymbol64", fn := fun _ => fun
  | [d] => { results := [.lit (.bool true)], args := [d] }
  | _ => none }
def fnLoaderSymbol64Row : OpenClaim := { program := "ytpnnomoiapcojaadoor", sum := "d4a4d62c420abcc1949a0f328085a0a518029f1fe15e837866d8606e97be793d", func := "loop.example/pub-g03341/laws.FnLoaderSymbol64", spec := "fnLoaderSymbol64", unfollowed := true, recurses := true, named := ["io.ErrShortBuffer", "io.EOF", "io.ErrUnexpectedEOF"], apart := false, laid := [("io.ErrShortBuffer", laid_io_ErrShortBuffer), ("io.EOF", laid_io_EOF), ("io.ErrUnexpectedEOF", laid_io_ErrUnexpectedEOF)] }
def FnLoaderSymbol64Said : Prop := fnLoaderSymbol64Row.holds Tryd.pinned (OpenSpec.ofChange fnLoaderSymbol64Spec)

/-- ITS FALSE NEIGHBOUR: 'it returns false'. Refute it at one input. -/
def fnLoaderSymbol64Wrong : ChangeSpec := { name := "fnLoaderSymbol64", fn := fun _ => fun
  | [d] => { results := [.lit (.bool false)], args := [d] }
  | _ => none }
def FnLoaderSymbol64WrongFalsely : Prop := fnLoaderSymbol64Row.holds Tryd.pinned (OpenSpec.ofChange fnLoaderSymbol64Wrong)

/-- 'laws.FnLoaderHeader64': WHATEVER THE INPUT: true; the input reads as it did. -/
def fnLoaderHeader64Spec : ChangeSpec := { name := "fnLoaderHeader64", fn := fun _ => fun
  | [d] => { results := [.lit (.bool true)], args := [d] }
  | _ => none }
def fnLoaderHeader64Row : OpenClaim := { program := "ytpnnomoiapcojaadoor", sum := "d4a4d62c420abcc1949a0f328085a0a518029f1fe15e837866d8606e97be793d", func := "loop.example/pub-g03341/laws.FnLoaderHeader64", spec := "fnLoaderHeader64", unfollowed := true, recurses := true, named := ["io.ErrShortBuffer", "io.EOF", "io.ErrUnexpectedEOF"], apart := false, laid := [("io.ErrShortBuffer", laid_io_ErrShortBuffer), ("io.EOF", laid_io_EOF), ("io.ErrUnexpectedEOF", laid_io_ErrUnexpectedEOF)] }
def FnLoaderHeader64Said : Prop := fnLoaderHeader64Row.holds Tryd.pinned (OpenSpec.ofChange fnLoaderHeader64Spec)

/-- ITS FALSE NEIGHBOUR: 'it returns false'. Refute it at one input. -/
def fnLoaderHeader64Wrong : ChangeSpec := { name := "fnLoaderHeader64", fn := fun _ => fun
  | [d] => { results := [.lit (.bool false)], args := [d] }
  | _ => none }
def FnLoaderHeader64WrongFalsely : Prop := fnLoaderHeader64Row.holds Tryd.pinned (OpenSpec.ofChange fnLoaderHeader64Wrong)

/-- 'laws.FnSectionHeader32': WHATEVER THE INPUT: true; the input reads as it did. -/
def fnSectionHeader32Spec : ChangeSpec := { name := "fnSectionHeader32", fn := fun _ => fun
  | [d] => { results := [.lit (.bool true)], args := [d] }
  | _ => none }
def fnSectionHeader32Row : OpenClaim := { program := "ytpnnomoiapcojaadoor", sum := "d4a4d62c420abcc1949a0f328085a0a518029f1fe15e837866d8606e97be793d", func := "loop.example/pub-g03341/laws.FnSectionHeader32", spec := "fnSectionHeader32", unfollowed := true, recurses := true, named := ["io.ErrShortBuffer", "io.EOF", "io.ErrUnexpectedEOF"], apart := false, laid := [("io.ErrShortBuffer", laid_io_ErrShortBuffer), ("io.EOF", laid_io_EOF), ("io.ErrUnexpectedEOF", laid_io_ErrUnexpectedEOF)] }
def FnSectionHeader32Said : Prop := fnSectionHeader32Row.holds Tryd.pinned (OpenSpec.ofChange fnSectionHeader32Spec)

/-- ITS FALSE NEIGHBOUR: 'it returns false'. Refute it at one input. -/
def fnSectionHeader32Wrong : ChangeSpec := { name := "fnSectionHeader32", fn := fun _ => fun
  | [d] => { results := [.lit (.bool false)], args := [d] }
  | _ => none }
def FnSectionHeader32WrongFalsely : Prop := fnSectionHeader32Row.holds Tryd.pinned (OpenSpec.ofChange fnSectionHeader32Wrong)

/-- 'laws.FnSectionHeader64': WHATEVER THE INPUT: true; the input reads as it did. -/
def fnSectionHeader64Spec : ChangeSpec := { name := "fnSectionHeader64", fn := fun _ => fun
  | [d] => { results := [.lit (.bool true)], args := [d] }
  | _ => none }
def fnSectionHeader64Row : OpenClaim := { program := "ytpnnomoiapcojaadoor", sum := "d4a4d62c420abcc1949a0f328085a0a518029f1fe15e837866d8606e97be793d", func := "loop.example/pub-g03341/laws.FnSectionHeader64", spec := "fnSectionHeader64", unfollowed := true, recurses := true, named := ["io.ErrShortBuffer", "io.EOF", "io.ErrUnexpectedEOF"], apart := false, laid := [("io.ErrShortBuffer", laid_io_ErrShortBuffer), ("io.EOF", laid_io_EOF), ("io.ErrUnexpectedEOF", laid_io_ErrUnexpectedEOF)] }
def FnSectionHeader64Said : Prop := fnSectionHeader64Row.holds Tryd.pinned (OpenSpec.ofChange fnSectionHeader64Spec)

/-- ITS FALSE NEIGHBOUR: 'it returns false'. Refute it at one input. -/
def fnSectionHeader64Wrong : ChangeSpec := { name := "fnSectionHeader64", fn := fun _ => fun
  | [d] => { results := [.lit (.bool false)], args := [d] }
  | _ => none }
def FnSectionHeader64WrongFalsely : Prop := fnSectionHeader64Row.holds Tryd.pinned (OpenSpec.ofChange fnSectionHeader64Wrong)

/- THE SECOND FORM. 'bulk': how many values and letters a reading holds, each counted each time it is reached (what is shared counts as often as it is met; a slice's spare places count too). A statement '..UptoSaid' is the law's where the arguments, and the package variables that the reading takes, are together of bulk at most 1048576: NARROWER than '..Said'. Prove '..Said' where nothing that the law and all that it calls make is longer than what came in: it says more and counts as full. Else prove '..UptoSaid'. A law counts once. -/
mutual
def uptoBulk {H : Type} : DataW H → Nat
  | .lit (.string bytes) => bytes.length + 1
  | .lit _ => 1
  | .nil => 1
  | .ptr d => uptoBulk d + 1
  | .slice elems spare => uptoBulkAll elems + uptoBulkAll spare + 1
  | .agg parts => uptoBulkAll parts + 1
  | .iface _ d => uptoBulk d + 1
  | .map entries => uptoBulkEntries entries + 1
  | .held _ => 1
def uptoBulkAll {H : Type} : List (DataW H) → Nat
  | [] => 0
  | d :: r => uptoBulk d + uptoBulkAll r
def uptoBulkEntries {H : Type} : List (Lit × DataW H) → Nat
  | [] => 0
  | x :: r => uptoBulkEntry x + uptoBulkEntries r
def uptoBulkEntry {H : Type} : Lit × DataW H → Nat
  | (.string bytes, d) => bytes.length + uptoBulk d + 1
  | (_, d) => uptoBulk d + 1
 end
def uptoSmall : (H : Type) → List (DataW H) → Bool := fun _ ds => decide (uptoBulkAll ds ≤ 1048576)
def OpenSpec.upto (s : _root_.Go.ChangeSpec) : _root_.Go.OpenSpec := { _root_.Go.OpenSpec.ofChange s with cond := some uptoSmall }

/-- 'laws.FnSymEnt32', WHERE WHAT IT READS IS OF BULK AT MOST 1048576: true; the input reads as it did. -/
def fnSymEnt32UptoRow : OpenClaim := { program := "ytpnnomoiapcojaadoor", sum := "d4a4d62c420abcc1949a0f328085a0a518029f1fe15e837866d8606e97be793d", func := "loop.example/pub-g03341/laws.FnSymEnt32", spec := "fnSymEnt32", unfollowed := true, recurses := true, named := ["io.ErrShortBuffer", "io.EOF", "io.ErrUnexpectedEOF"], apart := false, laid := [("io.ErrShortBuffer", laid_io_ErrShortBuffer), ("io.EOF", laid_io_EOF), ("io.ErrUnexpectedEOF", laid_io_ErrUnexpectedEOF)], narrowed := true }
def FnSymEnt32UptoSaid : Prop := fnSymEnt32UptoRow.holds Tryd.pinned (OpenSpec.upto fnSymEnt32Spec)

/-- 'laws.FnSymEnt64', WHERE WHAT IT READS IS OF BULK AT MOST 1048576: true; the input reads as it did. -/
def fnSymEnt64UptoRow : OpenClaim := { program := "ytpnnomoiapcojaadoor", sum := "d4a4d62c420abcc1949a0f328085a0a518029f1fe15e837866d8606e97be793d", func := "loop.example/pub-g03341/laws.FnSymEnt64", spec := "fnSymEnt64", unfollowed := true, recurses := true, named := ["io.ErrShortBuffer", "io.EOF", "io.ErrUnexpectedEOF"], apart := false, laid := [("io.ErrShortBuffer", laid_io_ErrShortBuffer), ("io.EOF", laid_io_EOF), ("io.ErrUnexpectedEOF", laid_io_ErrUnexpectedEOF)], narrowed := true }
def FnSymEnt64UptoSaid : Prop := fnSymEnt64UptoRow.holds Tryd.pinned (OpenSpec.upto fnSymEnt64Spec)

/-- 'laws.FnFileHeader64', WHERE WHAT IT READS IS OF BULK AT MOST 1048576: true; the input reads as it did. -/
def fnFileHeader64UptoRow : OpenClaim := { program := "ytpnnomoiapcojaadoor", sum := "d4a4d62c420abcc1949a0f328085a0a518029f1fe15e837866d8606e97be793d", func := "loop.example/pub-g03341/laws.FnFileHeader64", spec := "fnFileHeader64", unfollowed := true, recurses := true, named := ["io.ErrShortBuffer", "io.EOF", "io.ErrUnexpectedEOF"], apart := false, laid := [("io.ErrShortBuffer", laid_io_ErrShortBuffer), ("io.EOF", laid_io_EOF), ("io.ErrUnexpectedEOF", laid_io_ErrUnexpectedEOF)], narrowed := true }
def FnFileHeader64UptoSaid : Prop := fnFileHeader64UptoRow.holds Tryd.pinned (OpenSpec.upto fnFileHeader64Spec)

/-- 'laws.FnLoaderSymbol32', WHERE WHAT IT READS IS OF BULK AT MOST 1048576: true; the input reads as it did. -/
def fnLoaderSymbol32UptoRow : OpenClaim := { program := "ytpnnomoiapcojaadoor", sum := "d4a4d62c420abcc1949a0f328085a0a518029f1fe15e837866d8606e97be793d", func := "loop.example/pub-g03341/laws.FnLoaderSymbol32", spec := "fnLoaderSymbol32", unfollowed := true, recurses := true, named := ["io.ErrShortBuffer", "io.EOF", "io.ErrUnexpectedEOF"], apart := false, laid := [("io.ErrShortBuffer", laid_io_ErrShortBuffer), ("io.EOF", laid_io_EOF), ("io.ErrUnexpectedEOF", laid_io_ErrUnexpectedEOF)], narrowed := true }
def FnLoaderSymbol32UptoSaid : Prop := fnLoaderSymbol32UptoRow.holds Tryd.pinned (OpenSpec.upto fnLoaderSymbol32Spec)

/-- 'laws.FnLoaderSymbol64', WHERE WHAT IT READS IS OF BULK AT MOST 1048576: true; the input reads as it did. -/
def fnLoaderSymbol64UptoRow : OpenClaim := { program := "ytpnnomoiapcojaadoor", sum := "d4a4d62c420abcc1949a0f328085a0a518029f1fe15e837866d8606e97be793d", func := "loop.example/pub-g03341/laws.FnLoaderSymbol64", spec := "fnLoaderSymbol64", unfollowed := true, recurses := true, named := ["io.ErrShortBuffer", "io.EOF", "io.ErrUnexpectedEOF"], apart := false, laid := [("io.ErrShortBuffer", laid_io_ErrShortBuffer), ("io.EOF", laid_io_EOF), ("io.ErrUnexpectedEOF", laid_io_ErrUnexpectedEOF)], narrowed := true }
def FnLoaderSymbol64UptoSaid : Prop := fnLoaderSymbol64UptoRow.holds Tryd.pinned (OpenSpec.upto fnLoaderSymbol64Spec)

/-- 'laws.FnLoaderHeader64', WHERE WHAT IT READS IS OF BULK AT MOST 1048576: true; the input reads as it did. -/
def fnLoaderHeader64UptoRow : OpenClaim := { program := "ytpnnomoiapcojaadoor", sum := "d4a4d62c420abcc1949a0f328085a0a518029f1fe15e837866d8606e97be793d", func := "loop.example/pub-g03341/laws.FnLoaderHeader64", spec := "fnLoaderHeader64", unfollowed := true, recurses := true, named := ["io.ErrShortBuffer", "io.EOF", "io.ErrUnexpectedEOF"], apart := false, laid := [("io.ErrShortBuffer", laid_io_ErrShortBuffer), ("io.EOF", laid_io_EOF), ("io.ErrUnexpectedEOF", laid_io_ErrUnexpectedEOF)], narrowed := true }
def FnLoaderHeader64UptoSaid : Prop := fnLoaderHeader64UptoRow.holds Tryd.pinned (OpenSpec.upto fnLoaderHeader64Spec)

/-- 'laws.FnSectionHeader32', WHERE WHAT IT READS IS OF BULK AT MOST 1048576: true; the input reads as it did. -/
def fnSectionHeader32UptoRow : OpenClaim := { program := "ytpnnomoiapcojaadoor", sum := "d4a4d62c420abcc1949a0f328085a0a518029f1fe15e837866d8606e97be793d", func := "loop.example/pub-g03341/laws.FnSectionHeader32", spec := "fnSectionHeader32", unfollowed := true, recurses := true, named := ["io.ErrShortBuffer", "io.EOF", "io.ErrUnexpectedEOF"], apart := false, laid := [("io.ErrShortBuffer", laid_io_ErrShortBuffer), ("io.EOF", laid_io_EOF), ("io.ErrUnexpectedEOF", laid_io_ErrUnexpectedEOF)], narrowed := true }
def FnSectionHeader32UptoSaid : Prop := fnSectionHeader32UptoRow.holds Tryd.pinned (OpenSpec.upto fnSectionHeader32Spec)

/-- 'laws.FnSectionHeader64', WHERE WHAT IT READS IS OF BULK AT MOST 1048576: true; the input reads as it did. -/
def fnSectionHeader64UptoRow : OpenClaim := { program := "ytpnnomoiapcojaadoor", sum := "d4a4d62c420abcc1949a0f328085a0a518029f1fe15e837866d8606e97be793d", func := "loop.example/pub-g03341/laws.FnSectionHeader64", spec := "fnSectionHeader64", unfollowed := true, recurses := true, named := ["io.ErrShortBuffer", "io.EOF", "io.ErrUnexpectedEOF"], apart := false, laid := [("io.ErrShortBuffer", laid_io_ErrShortBuffer), ("io.EOF", laid_io_EOF), ("io.ErrUnexpectedEOF", laid_io_ErrUnexpectedEOF)], narrowed := true }
def FnSectionHeader64UptoSaid : Prop := fnSectionHeader64UptoRow.holds Tryd.pinned (OpenSpec.upto fnSectionHeader64Spec)

end Rows
end Go.Proofs.YtpnnomoiapcojaaDoor
