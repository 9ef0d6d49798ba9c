/-
  NARROWER THAN 'FOR EVERY INPUT', by the rows' own cells (each row's printed sentence says how): FnReloc32: laid · FnAuxFcn32: laid · FnAuxCSect32: laid · FnFileHeader32: laid · FnAuxCSect64: laid · FnLoaderHeader32: laid · FnReloc64: laid · FnAuxFcn64: laid.
  DERIVED. THE GIVEN ROWS OF THIS SEAT. 8 by the template 'for every input the law returns true; each argument reads behind the call as it read before'; 0 by the template 'total and deterministic' (their statements: YtngnocfmagmpmaaDoorTotals.lean).
  GIVEN WITH THE SEED: the statements are not yours to turn. If you find one false, say at which input.
  Laid BY PROGRAM, IN A SANDBOX (cutbox-rows.mjs): the forced cells as the released guide's own fill.sh prints them over the translation ded3bbe2320c30d3… (all of the seat's roots in one cut). By AI agents, Wed Nov 11 2026. No macro, syntax, notation, axiom, sorry.
-/
import Derived.Test.YtngnocfmagmpmaaDoorChecked
import GoSem.Claim
import GoSem.ClaimJoined
import GoSem.ClaimMapViews
import Derived.JoinedTies
import Derived.KernelRfl
namespace Go.Proofs.YtngnocfmagmpmaaDoor
/- THE CELL 'sum', in the pinned program and in every row, IS THE sha256 OF THE DUMP (.gsa) THAT YtngnocfmagmpmaaDoorProg.lean LOADS. Nothing in Lean hashes anything: it is a label: what it is worth is what the hold of that sum in a sandbox is worth. -/
noncomputable def Tryd.pinned : Pinned := { name := "ytngnocfmagmpmaadoor", sum := "ded3bbe2320c30d30d758507193c1924983672feb517b1eb315f5f8df6a153ca", checked := Tryd.checked }
namespace Rows
def none {H : Type} : Left H := { results := [], args := [] }

/- WHAT THE LISTED PACKAGE-LEVEL VARIABLES READ AS WHEN THE CALL BEGINS. Each datum BY PROGRAM (the guide's laid-datum.mjs) off the statement by which the dump's own 'gosem.cut.vars' lays the variable. In a bare row this is a premise. The card (YtngnocfmagmpmaaDoorCards.lean) ties it to the program's text. -/
def laid_io_ErrShortBuffer {H : Type} : DataW H := .iface "*errors.errorString" (.ptr (.agg [.lit (.string [115, 104, 111, 114, 116, 32, 98, 117, 102, 102, 101, 114])]))
def laid_io_EOF {H : Type} : DataW H := .iface "*errors.errorString" (.ptr (.agg [.lit (.string [69, 79, 70])]))
def laid_io_ErrUnexpectedEOF {H : Type} : DataW H := .iface "*errors.errorString" (.ptr (.agg [.lit (.string [117, 110, 101, 120, 112, 101, 99, 116, 101, 100, 32, 69, 79, 70])]))

/-- 'laws.FnReloc32': WHATEVER THE INPUT: true; the input reads as it did. -/
def fnReloc32Spec : ChangeSpec := { name := "fnReloc32", fn := fun _ => fun
  | [d] => { results := [.lit (.bool true)], args := [d] }
  | _ => none }
def fnReloc32Row : OpenClaim := { program := "ytngnocfmagmpmaadoor", sum := "ded3bbe2320c30d30d758507193c1924983672feb517b1eb315f5f8df6a153ca", func := "loop.example/pub-g03341/laws.FnReloc32", spec := "fnReloc32", unfollowed := true, recurses := true, named := ["io.ErrShortBuffer", "io.EOF", "io.ErrUnexpectedEOF"], apart := false, laid := [("io.ErrShortBuffer", laid_io_ErrShortBuffer), ("io.EOF", laid_io_EOF), ("io.ErrUnexpectedEOF", laid_io_ErrUnexpectedEOF)] }
def FnReloc32Said : Prop := fnReloc32Row.holds Tryd.pinned (OpenSpec.ofChange fnReloc32Spec)

/-- ITS FALSE NEIGHBOUR: 'it returns false'. Refute it at one input. -/
def fnReloc32Wrong : ChangeSpec := { name := "fnReloc32", fn := fun _ => fun
  | [d] => { results := [.lit (.bool false)], args := [d] }
  | _ => none }
def FnReloc32WrongFalsely : Prop := fnReloc32Row.holds Tryd.pinned (OpenSpec.ofChange fnReloc32Wrong)

/-- 'laws.FnAuxFcn32': WHATEVER THE INPUT: true; the input reads as it did. -/
def fnAuxFcn32Spec : ChangeSpec := { name := "fnAuxFcn32", fn := fun _ => fun
  | [d] => { results := [.lit (.bool true)], args := [d] }
  | _ => none }
def fnAuxFcn32Row : OpenClaim := { program := "ytngnocfmagmpmaadoor", sum := "ded3bbe2320c30d30d758507193c1924983672feb517b1eb315f5f8df6a153ca", func := "loop.example/pub-g03341/laws.FnAuxFcn32", spec := "fnAuxFcn32", unfollowed := true, recurses := true, named := ["io.ErrShortBuffer", "io.EOF", "io.ErrUnexpectedEOF"], apart := false, laid := [("io.ErrShortBuffer", laid_io_ErrShortBuffer), ("io.EOF", laid_io_EOF), ("io.ErrUnexpectedEOF", laid_io_ErrUnexpectedEOF)] }
def FnAuxFcn32Said : Prop := fnAuxFcn32Row.holds Tryd.pinned (OpenSpec.ofChange fnAuxFcn32Spec)

/-- ITS FALSE NEIGHBOUR: 'it returns false'. Refute it at one input. -/
def fnAuxFcn32Wrong : ChangeSpec := { name := "fnAuxFcn32", fn := fun _ => fun
  | [d] => { results := [.lit (.bool false)], args := [d] }
  | _ => none }
def FnAuxFcn32WrongFalsely : Prop := fnAuxFcn32Row.holds Tryd.pinned (OpenSpec.ofChange fnAuxFcn32Wrong)

/-- 'laws.FnAuxCSect32': WHATEVER THE INPUT: true; the input reads as it did. -/
def fnAuxCSect32Spec : ChangeSpec := { name := "fnAuxCSect32", fn := fun _ => fun
  | [d] => { results := [.lit (.bool true)], args := [d] }
  | _ => none }
def fnAuxCSect32Row : OpenClaim := { program := "ytngnocfmagmpmaadoor", sum := "ded3bbe2320c30d30d758507193c1924983672feb517b1eb315f5f8df6a153ca", func := "loop.example/pub-g03341/laws.FnAuxCSect32", spec := "fnAuxCSect32", unfollowed := true, recurses := true, named := ["io.ErrShortBuffer", "io.EOF", "io.ErrUnexpectedEOF"], apart := false, laid := [("io.ErrShortBuffer", laid_io_ErrShortBuffer), ("io.EOF", laid_io_EOF), ("io.ErrUnexpectedEOF", laid_io_ErrUnexpectedEOF)] }
def FnAuxCSect32Said : Prop := fnAuxCSect32Row.holds Tryd.pinned (OpenSpec.ofChange fnAuxCSect32Spec)

/-- ITS FALSE NEIGHBOUR: 'it returns false'. Refute it at one input. -/
def fnAuxCSect32Wrong : ChangeSpec := { name := "fnAuxCSect32", fn := fun _ => fun
  | [d] => { results := [.lit (.bool false)], args := [d] }
  | _ => none }
def FnAuxCSect32WrongFalsely : Prop := fnAuxCSect32Row.holds Tryd.pinned (OpenSpec.ofChange fnAuxCSect32Wrong)

/-- 'laws.FnFileHeader32': WHATEVER THE INPUT: true; the input reads as it did. -/
def fnFileHeader32Spec : ChangeSpec := { name := "fnFileHeader32", fn := fun _ => fun
  | [d] => { results := [.lit (.bool true)], args := [d] }
  | _ => none }
def fnFileHeader32Row : OpenClaim := { program := "ytngnocfmagmpmaadoor", sum := "ded3bbe2320c30d30d758507193c1924983672feb517b1eb315f5f8df6a153ca", func := "loop.example/pub-g03341/laws.FnFileHeader32", spec := "fnFileHeader32", unfollowed := true, recurses := true, named := ["io.ErrShortBuffer", "io.EOF", "io.ErrUnexpectedEOF"], apart := false, laid := [("io.ErrShortBuffer", laid_io_ErrShortBuffer), ("io.EOF", laid_io_EOF), ("io.ErrUnexpectedEOF", laid_io_ErrUnexpectedEOF)] }
def FnFileHeader32Said : Prop := fnFileHeader32Row.holds Tryd.pinned (OpenSpec.ofChange fnFileHeader32Spec)

/-- ITS FALSE NEIGHBOUR: 'it returns false'. Refute it at one input. -/
def fnFileHeader32Wrong : ChangeSpec := { name := "fnFileHeader32", fn := fun _ => fun
  | [d] => { results := [.lit (.bool false)], args := [d] }
  | _ => none }
def FnFileHeader32WrongFalsely : Prop := fnFileHeader32Row.holds Tryd.pinned (OpenSpec.ofChange fnFileHeader32Wrong)

/-- 'laws.FnAuxCSect64': WHATEVER THE INPUT: true; the input reads as it did. -/
def fnAuxCSect64Spec : ChangeSpec := { name := "fnAuxCSect64", fn := fun _ => fun
  | [d] => { results := [.lit (.bool true)], args := [d] }
  | _ => none }
def fnAuxCSect64Row : OpenClaim := { program := "ytngnocfmagmpmaadoor", sum := "ded3bbe2320c30d30d758507193c1924983672feb517b1eb315f5f8df6a153ca", func := "loop.example/pub-g03341/laws.FnAuxCSect64", spec := "fnAuxCSect64", unfollowed := true, recurses := true, named := ["io.ErrShortBuffer", "io.EOF", "io.ErrUnexpectedEOF"], apart := false, laid := [("io.ErrShortBuffer", laid_io_ErrShortBuffer), ("io.EOF", laid_io_EOF), ("io.ErrUnexpectedEOF", laid_io_ErrUnexpectedEOF)] }
def FnAuxCSect64Said : Prop := fnAuxCSect64Row.holds Tryd.pinned (OpenSpec.ofChange fnAuxCSect64Spec)

/-- ITS FALSE NEIGHBOUR: 'it returns false'. Refute it at one input. -/
def fnAuxCSect64Wrong : ChangeSpec := { name := "fnAuxCSect64", fn := fun _ => fun
  | [d] => { results := [.lit (.bool false)], args := [d] }
  | _ => none }
def FnAuxCSect64WrongFalsely : Prop := fnAuxCSect64Row.holds Tryd.pinned (OpenSpec.ofChange fnAuxCSect64Wrong)

/-- 'laws.FnLoaderHeader32': WHATEVER THE INPUT: true; the input reads as it did. -/
def fnLoaderHeader32Spec : ChangeSpec := { name := "fnLoaderHeader32", fn := fun _ => fun
  | [d] => { results := [.lit (.bool true)], args := [d] }
  | _ => none }
def fnLoaderHeader32Row : OpenClaim := { program := "ytngnocfmagmpmaadoor", sum := "ded3bbe2320c30d30d758507193c1924983672feb517b1eb315f5f8df6a153ca", func := "loop.example/pub-g03341/laws.FnLoaderHeader32", spec := "fnLoaderHeader32", unfollowed := true, recurses := true, named := ["io.ErrShortBuffer", "io.EOF", "io.ErrUnexpectedEOF"], apart := false, laid := [("io.ErrShortBuffer", laid_io_ErrShortBuffer), ("io.EOF", laid_io_EOF), ("io.ErrUnexpectedEOF", laid_io_ErrUnexpectedEOF)] }
def FnLoaderHeader32Said : Prop := fnLoaderHeader32Row.holds Tryd.pinned (OpenSpec.ofChange fnLoaderHeader32Spec)

/-- ITS FALSE NEIGHBOUR: 'it returns false'. Refute it at one input. -/
def fnLoaderHeader32Wrong : ChangeSpec := { name := "fnLoaderHeader32", fn := fun _ => fun
  | [d] => { results := [.lit (.bool false)], args := [d] }
  | _ => none }
def FnLoaderHeader32WrongFalsely : Prop := fnLoaderHeader32Row.holds Tryd.pinned (OpenSpec.ofChange fnLoaderHeader32Wrong)

/-- 'laws.FnReloc64': WHATEVER THE INPUT: true; the input reads as it did. -/
def fnReloc64Spec : ChangeSpec := { name := "fnReloc64", fn := fun _ => fun
  | [d] => { results := [.lit (.bool true)], args := [d] }
  | _ => none }
def fnReloc64Row : OpenClaim := { program := "ytngnocfmagmpmaadoor", sum := "ded3bbe2320c30d30d758507193c1924983672feb517b1eb315f5f8df6a153ca", func := "loop.example/pub-g03341/laws.FnReloc64", spec := "fnReloc64", unfollowed := true, recurses := true, named := ["io.ErrShortBuffer", "io.EOF", "io.ErrUnexpectedEOF"], apart := false, laid := [("io.ErrShortBuffer", laid_io_ErrShortBuffer), ("io.EOF", laid_io_EOF), ("io.ErrUnexpectedEOF", laid_io_ErrUnexpectedEOF)] }
def FnReloc64Said : Prop := fnReloc64Row.holds Tryd.pinned (OpenSpec.ofChange fnReloc64Spec)

/-- ITS FALSE NEIGHBOUR: 'it returns false'. Refute it at one input. -/
def fnReloc64Wrong : ChangeSpec := { name := "fnReloc64", fn := fun _ => fun
  | [d] => { results := [.lit (.bool false)], args := [d] }
  | _ => none }
def FnReloc64WrongFalsely : Prop := fnReloc64Row.holds Tryd.pinned (OpenSpec.ofChange fnReloc64Wrong)

/-- 'laws.FnAuxFcn64': WHATEVER THE INPUT: true; the input reads as it did. -/
def fnAuxFcn64Spec : ChangeSpec := { name := "fnAuxFcn64", fn := fun _ => fun
  | [d] => { results := [.lit (.bool true)], args := [d] }
  | _ => none }
def fnAuxFcn64Row : OpenClaim := { program := "ytngnocfmagmpmaadoor", sum := "ded3bbe2320c30d30d758507193c1924983672feb517b1eb315f5f8df6a153ca", func := "loop.example/pub-g03341/laws.FnAuxFcn64", spec := "fnAuxFcn64", unfollowed := true, recurses := true, named := ["io.ErrShortBuffer", "io.EOF", "io.ErrUnexpectedEOF"], apart := false, laid := [("io.ErrShortBuffer", laid_io_ErrShortBuffer), ("io.EOF", laid_io_EOF), ("io.ErrUnexpectedEOF", laid_io_ErrUnexpectedEOF)] }
def FnAuxFcn64Said : Prop := fnAuxFcn64Row.holds Tryd.pinned (OpenSpec.ofChange fnAuxFcn64Spec)

/-- ITS FALSE NEIGHBOUR: 'it returns false'. Refute it at one input. -/
def fnAuxFcn64Wrong : ChangeSpec := { name := "fnAuxFcn64", fn := fun _ => fun
  | [d] => { results := [.lit (.bool false)], args := [d] }
  | _ => none }
def FnAuxFcn64WrongFalsely : Prop := fnAuxFcn64Row.holds Tryd.pinned (OpenSpec.ofChange fnAuxFcn64Wrong)

/- THE SECOND FORM. 'bulk': how many values and letters a reading holds, each counted each time it is reached (what is shared counts as often as it is met; a slice's spare places count too). A statement '..UptoSaid' is the law's where the arguments, and the package variables that the reading takes, are together of bulk at most 1048576: NARROWER than '..Said'. Prove '..Said' where nothing that the law and all that it calls make is longer than what came in: it says more and counts as full. Else prove '..UptoSaid'. A law counts once. -/
mutual
def uptoBulk {H : Type} : DataW H → Nat
  | .lit (.string bytes) => bytes.length + 1
  | .lit _ => 1
  | .nil => 1
  | .ptr d => uptoBulk d + 1
  | .slice elems spare => uptoBulkAll elems + uptoBulkAll spare + 1
  | .agg parts => uptoBulkAll parts + 1
  | .iface _ d => uptoBulk d + 1
  | .map entries => uptoBulkEntries entries + 1
  | .held _ => 1
def uptoBulkAll {H : Type} : List (DataW H) → Nat
  | [] => 0
  | d :: r => uptoBulk d + uptoBulkAll r
def uptoBulkEntries {H : Type} : List (Lit × DataW H) → Nat
  | [] => 0
  | x :: r => uptoBulkEntry x + uptoBulkEntries r
def uptoBulkEntry {H : Type} : Lit × DataW H → Nat
  | (.string bytes, d) => bytes.length + uptoBulk d + 1
  | (_, d) => uptoBulk d + 1
 end
def uptoSmall : (H : Type) → List (DataW H) → Bool := fun _ ds => decide (uptoBulkAll ds ≤ 1048576)
def OpenSpec.upto (s : _root_.Go.ChangeSpec) : _root_.Go.OpenSpec := { _root_.Go.OpenSpec.ofChange s with cond := some uptoSmall }

/-- 'laws.FnReloc32', WHERE WHAT IT READS IS OF BULK AT MOST 1048576: true; the input reads as it did. -/
def fnReloc32UptoRow : OpenClaim := { program := "ytngnocfmagmpmaadoor", sum := "ded3bbe2320c30d30d758507193c1924983672feb517b1eb315f5f8df6a153ca", func := "loop.example/pub-g03341/laws.FnReloc32", spec := "fnReloc32", unfollowed := true, recurses := true, named := ["io.ErrShortBuffer", "io.EOF", "io.ErrUnexpectedEOF"], apart := false, laid := [("io.ErrShortBuffer", laid_io_ErrShortBuffer), ("io.EOF", laid_io_EOF), ("io.ErrUnexpectedEOF", laid_io_ErrUnexpectedEOF)], narrowed := true }
def FnReloc32UptoSaid : Prop := fnReloc32UptoRow.holds Tryd.pinned (OpenSpec.upto fnReloc32Spec)

/-- 'laws.FnAuxFcn32', WHERE WHAT IT READS IS OF BULK AT MOST 1048576: true; the input reads as it did. -/
def fnAuxFcn32UptoRow : OpenClaim := { program := "ytngnocfmagmpmaadoor", sum := "ded3bbe2320c30d30d758507193c1924983672feb517b1eb315f5f8df6a153ca", func := "loop.example/pub-g03341/laws.FnAuxFcn32", spec := "fnAuxFcn32", unfollowed := true, recurses := true, named := ["io.ErrShortBuffer", "io.EOF", "io.ErrUnexpectedEOF"], apart := false, laid := [("io.ErrShortBuffer", laid_io_ErrShortBuffer), ("io.EOF", laid_io_EOF), ("io.ErrUnexpectedEOF", laid_io_ErrUnexpectedEOF)], narrowed := true }
def FnAuxFcn32UptoSaid : Prop := fnAuxFcn32UptoRow.holds Tryd.pinned (OpenSpec.upto fnAuxFcn32Spec)

/-- 'laws.FnAuxCSect32', WHERE WHAT IT READS IS OF BULK AT MOST 1048576: true; the input reads as it did. -/
def fnAuxCSect32UptoRow : OpenClaim := { program := "ytngnocfmagmpmaadoor", sum := "ded3bbe2320c30d30d758507193c1924983672feb517b1eb315f5f8df6a153ca", func := "loop.example/pub-g03341/laws.FnAuxCSect32", spec := "fnAuxCSect32", unfollowed := true, recurses := true, named := ["io.ErrShortBuffer", "io.EOF", "io.ErrUnexpectedEOF"], apart := false, laid := [("io.ErrShortBuffer", laid_io_ErrShortBuffer), ("io.EOF", laid_io_EOF), ("io.ErrUnexpectedEOF", laid_io_ErrUnexpectedEOF)], narrowed := true }
def FnAuxCSect32UptoSaid : Prop := fnAuxCSect32UptoRow.holds Tryd.pinned (OpenSpec.upto fnAuxCSect32Spec)

/-- 'laws.FnFileHeader32', WHERE WHAT IT READS IS OF BULK AT MOST 1048576: true; the input reads as it did. -/
def fnFileHeader32UptoRow : OpenClaim := { program := "ytngnocfmagmpmaadoor", sum := "ded3bbe2320c30d30d758507193c1924983672feb517b1eb315f5f8df6a153ca", func := "loop.example/pub-g03341/laws.FnFileHeader32", spec := "fnFileHeader32", unfollowed := true, recurses := true, named := ["io.ErrShortBuffer", "io.EOF", "io.ErrUnexpectedEOF"], apart := false, laid := [("io.ErrShortBuffer", laid_io_ErrShortBuffer), ("io.EOF", laid_io_EOF), ("io.ErrUnexpectedEOF", laid_io_ErrUnexpectedEOF)], narrowed := true }
def FnFileHeader32UptoSaid : Prop := fnFileHeader32UptoRow.holds Tryd.pinned (OpenSpec.upto fnFileHeader32Spec)

/-- 'laws.FnAuxCSect64', WHERE WHAT IT READS IS OF BULK AT MOST 1048576: true; the input reads as it did. -/
def fnAuxCSect64UptoRow : OpenClaim := { program := "ytngnocfmagmpmaadoor", sum := "ded3bbe2320c30d30d758507193c1924983672feb517b1eb315f5f8df6a153ca", func := "loop.example/pub-g03341/laws.FnAuxCSect64", spec := "fnAuxCSect64", unfollowed := true, recurses := true, named := ["io.ErrShortBuffer", "io.EOF", "io.ErrUnexpectedEOF"], apart := false, laid := [("io.ErrShortBuffer", laid_io_ErrShortBuffer), ("io.EOF", laid_io_EOF), ("io.ErrUnexpectedEOF", laid_io_ErrUnexpectedEOF)], narrowed := true }
def FnAuxCSect64UptoSaid : Prop := fnAuxCSect64UptoRow.holds Tryd.pinned (OpenSpec.upto fnAuxCSect64Spec)

/-- 'laws.FnLoaderHeader32', WHERE WHAT IT READS IS OF BULK AT MOST 1048576: true; the input reads as it did. -/
def fnLoaderHeader32UptoRow : OpenClaim := { program := "ytngnocfmagmpmaadoor", sum := "ded3bbe2320c30d30d758507193c1924983672feb517b1eb315f5f8df6a153ca", func := "loop.example/pub-g03341/laws.FnLoaderHeader32", spec := "fnLoaderHeader32", unfollowed := true, recurses := true, named := ["io.ErrShortBuffer", "io.EOF", "io.ErrUnexpectedEOF"], apart := false, laid := [("io.ErrShortBuffer", laid_io_ErrShortBuffer), ("io.EOF", laid_io_EOF), ("io.ErrUnexpectedEOF", laid_io_ErrUnexpectedEOF)], narrowed := true }
def FnLoaderHeader32UptoSaid : Prop := fnLoaderHeader32UptoRow.holds Tryd.pinned (OpenSpec.upto fnLoaderHeader32Spec)

/-- 'laws.FnReloc64', WHERE WHAT IT READS IS OF BULK AT MOST 1048576: true; the input reads as it did. -/
def fnReloc64UptoRow : OpenClaim := { program := "ytngnocfmagmpmaadoor", sum := "ded3bbe2320c30d30d758507193c1924983672feb517b1eb315f5f8df6a153ca", func := "loop.example/pub-g03341/laws.FnReloc64", spec := "fnReloc64", unfollowed := true, recurses := true, named := ["io.ErrShortBuffer", "io.EOF", "io.ErrUnexpectedEOF"], apart := false, laid := [("io.ErrShortBuffer", laid_io_ErrShortBuffer), ("io.EOF", laid_io_EOF), ("io.ErrUnexpectedEOF", laid_io_ErrUnexpectedEOF)], narrowed := true }
def FnReloc64UptoSaid : Prop := fnReloc64UptoRow.holds Tryd.pinned (OpenSpec.upto fnReloc64Spec)

/-- 'laws.FnAuxFcn64', WHERE WHAT IT READS IS OF BULK AT MOST 1048576: true; the input reads as it did. -/
def fnAuxFcn64UptoRow : OpenClaim := { program := "ytngnocfmagmpmaadoor", sum := "ded3bbe2320c30d30d758507193c1924983672feb517b1eb315f5f8df6a153ca", func := "loop.example/pub-g03341/laws.FnAuxFcn64", spec := "fnAuxFcn64", unfollowed := true, recurses := true, named := ["io.ErrShortBuffer", "io.EOF", "io.ErrUnexpectedEOF"], apart := false, laid := [("io.ErrShortBuffer", laid_io_ErrShortBuffer), ("io.EOF", laid_io_EOF), ("io.ErrUnexpectedEOF", laid_io_ErrUnexpectedEOF)], narrowed := true }
def FnAuxFcn64UptoSaid : Prop := fnAuxFcn64UptoRow.holds Tryd.pinned (OpenSpec.upto fnAuxFcn64Spec)

end Rows
end Go.Proofs.YtngnocfmagmpmaaDoor
