/-
  NARROWER THAN 'FOR EVERY INPUT', by the rows' own cells (each row's printed sentence says how): FnProg: laid · FnProgram: laid · FnProgramSymbols: ifaces, laid.
  DERIVED. THE GIVEN ROWS OF THIS SEAT. 3 by the template 'for every input the law returns true; each argument reads behind the call as it read before'; 0 by the template 'total and deterministic' (their statements: YtpdjolkbjcdimaaDoorTotals.lean).
  GIVEN WITH THE SEED: the statements are not yours to turn. If you find one false, say at which input.
  Laid BY PROGRAM, IN A SANDBOX (cutbox-rows.mjs): the forced cells as the released guide's own fill.sh prints them over the translation 7d57ef3618ae2376… (all of the seat's roots in one cut). By AI agents, Wed Nov 11 2026. No macro, syntax, notation, axiom, sorry.
-/
import Derived.Test.YtpdjolkbjcdimaaDoorChecked
import GoSem.Claim
import GoSem.ClaimJoined
import GoSem.ClaimMapViews
import Derived.JoinedTies
import Derived.KernelRfl
namespace Go.Proofs.YtpdjolkbjcdimaaDoor
/- THE CELL 'sum', in the pinned program and in every row, IS THE sha256 OF THE DUMP (.gsa) THAT YtpdjolkbjcdimaaDoorProg.lean LOADS. Nothing in Lean hashes anything: it is a label: what it is worth is what the hold of that sum in a sandbox is worth. -/
noncomputable def Tryd.pinned : Pinned := { name := "ytpdjolkbjcdimaadoor", sum := "7d57ef3618ae2376bfc28a228c7dd232a1de687ecc1515022ab33461b41844f2", checked := Tryd.checked }
namespace Rows
def none {H : Type} : Left H := { results := [], args := [] }

/- WHAT THE LISTED PACKAGE-LEVEL VARIABLES READ AS WHEN THE CALL BEGINS. Each datum BY PROGRAM (the guide's laid-datum.mjs) off the statement by which the dump's own 'gosem.cut.vars' lays the variable. In a bare row this is a premise. The card (YtpdjolkbjcdimaaDoorCards.lean) ties it to the program's text. -/
def laid_io_ErrShortBuffer {H : Type} : DataW H := .iface "*errors.errorString" (.ptr (.agg [.lit (.string [115, 104, 111, 114, 116, 32, 98, 117, 102, 102, 101, 114])]))
def laid_io_EOF {H : Type} : DataW H := .iface "*errors.errorString" (.ptr (.agg [.lit (.string [69, 79, 70])]))
def laid_io_ErrUnexpectedEOF {H : Type} : DataW H := .iface "*errors.errorString" (.ptr (.agg [.lit (.string [117, 110, 101, 120, 112, 101, 99, 116, 101, 100, 32, 69, 79, 70])]))
def laid_loop_example_pub_g03341_pub_plan9obj_ErrNoSymbols {H : Type} : DataW H := .iface "*errors.errorString" (.ptr (.agg [.lit (.string [110, 111, 32, 115, 121, 109, 98, 111, 108, 32, 115, 101, 99, 116, 105, 111, 110])]))

/-- 'laws.FnProg': WHATEVER THE INPUT: true; the input reads as it did. -/
def fnProgSpec : ChangeSpec := { name := "fnProg", fn := fun _ => fun
  | [d] => { results := [.lit (.bool true)], args := [d] }
  | _ => none }
def fnProgRow : OpenClaim := { program := "ytpdjolkbjcdimaadoor", sum := "7d57ef3618ae2376bfc28a228c7dd232a1de687ecc1515022ab33461b41844f2", func := "loop.example/pub-g03341/laws.FnProg", spec := "fnProg", unfollowed := true, recurses := true, named := ["io.ErrShortBuffer", "io.EOF", "io.ErrUnexpectedEOF"], apart := false, laid := [("io.ErrShortBuffer", laid_io_ErrShortBuffer), ("io.EOF", laid_io_EOF), ("io.ErrUnexpectedEOF", laid_io_ErrUnexpectedEOF)] }
def FnProgSaid : Prop := fnProgRow.holds Tryd.pinned (OpenSpec.ofChange fnProgSpec)

/-- ITS FALSE NEIGHBOUR: 'it returns false'. Refute it at one input. -/
def fnProgWrong : ChangeSpec := { name := "fnProg", fn := fun _ => fun
  | [d] => { results := [.lit (.bool false)], args := [d] }
  | _ => none }
def FnProgWrongFalsely : Prop := fnProgRow.holds Tryd.pinned (OpenSpec.ofChange fnProgWrong)

/-- 'laws.FnProgram': WHATEVER THE INPUT: true; the input reads as it did. -/
def fnProgramSpec : ChangeSpec := { name := "fnProgram", fn := fun _ => fun
  | [d] => { results := [.lit (.bool true)], args := [d] }
  | _ => none }
def fnProgramRow : OpenClaim := { program := "ytpdjolkbjcdimaadoor", sum := "7d57ef3618ae2376bfc28a228c7dd232a1de687ecc1515022ab33461b41844f2", func := "loop.example/pub-g03341/laws.FnProgram", spec := "fnProgram", unfollowed := true, recurses := true, named := ["io.ErrShortBuffer", "io.EOF", "io.ErrUnexpectedEOF"], apart := false, laid := [("io.ErrShortBuffer", laid_io_ErrShortBuffer), ("io.EOF", laid_io_EOF), ("io.ErrUnexpectedEOF", laid_io_ErrUnexpectedEOF)] }
def FnProgramSaid : Prop := fnProgramRow.holds Tryd.pinned (OpenSpec.ofChange fnProgramSpec)

/-- ITS FALSE NEIGHBOUR: 'it returns false'. Refute it at one input. -/
def fnProgramWrong : ChangeSpec := { name := "fnProgram", fn := fun _ => fun
  | [d] => { results := [.lit (.bool false)], args := [d] }
  | _ => none }
def FnProgramWrongFalsely : Prop := fnProgramRow.holds Tryd.pinned (OpenSpec.ofChange fnProgramWrong)

/-- 'laws.FnProgramSymbols': WHATEVER THE INPUT: true; the input reads as it did. -/
def fnProgramSymbolsSpec : ChangeSpec := { name := "fnProgramSymbols", vars := ["loop.example/pub-g03341/pub/plan9obj.ErrNoSymbols"], fn := fun _ => fun
  | [d1, d2, g1] => { results := [.lit (.bool true)], args := [d1, d2], vars := [g1] }
  | _ => none }
def fnProgramSymbolsRow : OpenClaim := { program := "ytpdjolkbjcdimaadoor", sum := "7d57ef3618ae2376bfc28a228c7dd232a1de687ecc1515022ab33461b41844f2", func := "loop.example/pub-g03341/laws.FnProgramSymbols", spec := "fnProgramSymbols", unfollowed := true, recurses := true, named := ["io.ErrShortBuffer", "io.EOF", "io.ErrUnexpectedEOF", "loop.example/pub-g03341/pub/plan9obj.ErrNoSymbols"], ifaces := true, apart := false, laid := [("io.ErrShortBuffer", laid_io_ErrShortBuffer), ("io.EOF", laid_io_EOF), ("io.ErrUnexpectedEOF", laid_io_ErrUnexpectedEOF), ("loop.example/pub-g03341/pub/plan9obj.ErrNoSymbols", laid_loop_example_pub_g03341_pub_plan9obj_ErrNoSymbols)] }
def FnProgramSymbolsSaid : Prop := fnProgramSymbolsRow.holds Tryd.pinned (OpenSpec.ofChange fnProgramSymbolsSpec)

/-- ITS FALSE NEIGHBOUR: 'it returns false'. Refute it at one input. -/
def fnProgramSymbolsWrong : ChangeSpec := { name := "fnProgramSymbols", vars := ["loop.example/pub-g03341/pub/plan9obj.ErrNoSymbols"], fn := fun _ => fun
  | [d1, d2, g1] => { results := [.lit (.bool false)], args := [d1, d2], vars := [g1] }
  | _ => none }
def FnProgramSymbolsWrongFalsely : Prop := fnProgramSymbolsRow.holds Tryd.pinned (OpenSpec.ofChange fnProgramSymbolsWrong)

/- THE SECOND FORM. 'bulk': how many values and letters a reading holds, each counted each time it is reached (what is shared counts as often as it is met; a slice's spare places count too). A statement '..UptoSaid' is the law's where the arguments, and the package variables that the reading takes, are together of bulk at most 1048576: NARROWER than '..Said'. Prove '..Said' where nothing that the law and all that it calls make is longer than what came in: it says more and counts as full. Else prove '..UptoSaid'. A law counts once. -/
mutual
def uptoBulk {H : Type} : DataW H → Nat
  | .lit (.string bytes) => bytes.length + 1
  | .lit _ => 1
  | .nil => 1
  | .ptr d => uptoBulk d + 1
  | .slice elems spare => uptoBulkAll elems + uptoBulkAll spare + 1
  | .agg parts => uptoBulkAll parts + 1
  | .iface _ d => uptoBulk d + 1
  | .map entries => uptoBulkEntries entries + 1
  | .held _ => 1
def uptoBulkAll {H : Type} : List (DataW H) → Nat
  | [] => 0
  | d :: r => uptoBulk d + uptoBulkAll r
def uptoBulkEntries {H : Type} : List (Lit × DataW H) → Nat
  | [] => 0
  | x :: r => uptoBulkEntry x + uptoBulkEntries r
def uptoBulkEntry {H : Type} : Lit × DataW H → Nat
  | (.string bytes, d) => bytes.length + uptoBulk d + 1
  | (_, d) => uptoBulk d + 1
 end
def uptoSmall : (H : Type) → List (DataW H) → Bool := fun _ ds => decide (uptoBulkAll ds ≤ 1048576)
def OpenSpec.upto (s : _root_.Go.ChangeSpec) : _root_.Go.OpenSpec := { _root_.Go.OpenSpec.ofChange s with cond := some uptoSmall }

/-- 'laws.FnProg', WHERE WHAT IT READS IS OF BULK AT MOST 1048576: true; the input reads as it did. -/
def fnProgUptoRow : OpenClaim := { program := "ytpdjolkbjcdimaadoor", sum := "7d57ef3618ae2376bfc28a228c7dd232a1de687ecc1515022ab33461b41844f2", func := "loop.example/pub-g03341/laws.FnProg", spec := "fnProg", unfollowed := true, recurses := true, named := ["io.ErrShortBuffer", "io.EOF", "io.ErrUnexpectedEOF"], apart := false, laid := [("io.ErrShortBuffer", laid_io_ErrShortBuffer), ("io.EOF", laid_io_EOF), ("io.ErrUnexpectedEOF", laid_io_ErrUnexpectedEOF)], narrowed := true }
def FnProgUptoSaid : Prop := fnProgUptoRow.holds Tryd.pinned (OpenSpec.upto fnProgSpec)

/-- 'laws.FnProgram', WHERE WHAT IT READS IS OF BULK AT MOST 1048576: true; the input reads as it did. -/
def fnProgramUptoRow : OpenClaim := { program := "ytpdjolkbjcdimaadoor", sum := "7d57ef3618ae2376bfc28a228c7dd232a1de687ecc1515022ab33461b41844f2", func := "loop.example/pub-g03341/laws.FnProgram", spec := "fnProgram", unfollowed := true, recurses := true, named := ["io.ErrShortBuffer", "io.EOF", "io.ErrUnexpectedEOF"], apart := false, laid := [("io.ErrShortBuffer", laid_io_ErrShortBuffer), ("io.EOF", laid_io_EOF), ("io.ErrUnexpectedEOF", laid_io_ErrUnexpectedEOF)], narrowed := true }
def FnProgramUptoSaid : Prop := fnProgramUptoRow.holds Tryd.pinned (OpenSpec.upto fnProgramSpec)

/-- 'laws.FnProgramSymbols', WHERE WHAT IT READS IS OF BULK AT MOST 1048576: true; the input reads as it did. -/
def fnProgramSymbolsUptoRow : OpenClaim := { program := "ytpdjolkbjcdimaadoor", sum := "7d57ef3618ae2376bfc28a228c7dd232a1de687ecc1515022ab33461b41844f2", func := "loop.example/pub-g03341/laws.FnProgramSymbols", spec := "fnProgramSymbols", unfollowed := true, recurses := true, named := ["io.ErrShortBuffer", "io.EOF", "io.ErrUnexpectedEOF", "loop.example/pub-g03341/pub/plan9obj.ErrNoSymbols"], ifaces := true, apart := false, laid := [("io.ErrShortBuffer", laid_io_ErrShortBuffer), ("io.EOF", laid_io_EOF), ("io.ErrUnexpectedEOF", laid_io_ErrUnexpectedEOF), ("loop.example/pub-g03341/pub/plan9obj.ErrNoSymbols", laid_loop_example_pub_g03341_pub_plan9obj_ErrNoSymbols)], narrowed := true }
def FnProgramSymbolsUptoSaid : Prop := fnProgramSymbolsUptoRow.holds Tryd.pinned (OpenSpec.upto fnProgramSymbolsSpec)

end Rows
end Go.Proofs.YtpdjolkbjcdimaaDoor
