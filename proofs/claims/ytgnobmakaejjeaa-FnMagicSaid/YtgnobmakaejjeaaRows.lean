/-
  No cell of these rows narrows 'for every input' (looked for: loops, veiled, ifaces, maps, wideKeys, modest, calm, conditions, laid).
  DERIVED. THE GIVEN ROWS OF THIS SEAT. 3 by the template 'for every input the law returns true; each argument reads behind the call as it read before'; 0 by the template 'total and deterministic' (their statements: YtgnobmakaejjeaaTotals.lean).
  GIVEN WITH THE SEED: the statements are not yours to turn. If you find one false, say at which input.
  Laid BY PROGRAM, IN A SANDBOX (cutbox-rows.mjs): the forced cells as the released guide's own fill.sh prints them over the translation 3b19a48e9b4cf030… (all of the seat's roots in one cut). By AI agents, Wed Nov 11 2026. No macro, syntax, notation, axiom, sorry.
-/
import Derived.Test.YtgnobmakaejjeaaChecked
import GoSem.Claim
import GoSem.ClaimJoined
import GoSem.ClaimMapViews
import Derived.JoinedTies
import Derived.KernelRfl
namespace Go.Proofs.Ytgnobmakaejjeaa
/- THE CELL 'sum', in the pinned program and in every row, IS THE sha256 OF THE DUMP (.gsa) THAT YtgnobmakaejjeaaProg.lean LOADS. Nothing in Lean hashes anything: it is a label: what it is worth is what the hold of that sum in a sandbox is worth. -/
noncomputable def Try.pinned : Pinned := { name := "ytgnobmakaejjeaa", sum := "3b19a48e9b4cf030fad7ba5a91efab039fdb46d565a23b0bc22ce260fdcec02f", checked := Try.checked }
namespace Rows
def none {H : Type} : Left H := { results := [], args := [] }

/-- 'laws.FnCString': WHATEVER THE INPUT: true; the input reads as it did. -/
def fnCStringSpec : ChangeSpec := { name := "fnCString", fn := fun _ => fun
  | [d] => { results := [.lit (.bool true)], args := [d] }
  | _ => none }
def fnCStringRow : OpenClaim := { program := "ytgnobmakaejjeaa", sum := "3b19a48e9b4cf030fad7ba5a91efab039fdb46d565a23b0bc22ce260fdcec02f", func := "loop.example/pub-g03341/laws.FnCString", spec := "fnCString", unfollowed := true, recurses := true, apart := false }
def FnCStringSaid : Prop := fnCStringRow.holds Try.pinned (OpenSpec.ofChange fnCStringSpec)

/-- ITS FALSE NEIGHBOUR: 'it returns false'. Refute it at one input. -/
def fnCStringWrong : ChangeSpec := { name := "fnCString", fn := fun _ => fun
  | [d] => { results := [.lit (.bool false)], args := [d] }
  | _ => none }
def FnCStringWrongFalsely : Prop := fnCStringRow.holds Try.pinned (OpenSpec.ofChange fnCStringWrong)

/-- 'laws.FnText': WHATEVER THE INPUT: true; the input reads as it did. -/
def fnTextSpec : ChangeSpec := { name := "fnText", fn := fun _ => fun
  | [d1, d2] => { results := [.lit (.bool true)], args := [d1, d2] }
  | _ => none }
def fnTextRow : OpenClaim := { program := "ytgnobmakaejjeaa", sum := "3b19a48e9b4cf030fad7ba5a91efab039fdb46d565a23b0bc22ce260fdcec02f", func := "loop.example/pub-g03341/laws.FnText", spec := "fnText", unfollowed := true, recurses := true, apart := false }
def FnTextSaid : Prop := fnTextRow.holds Try.pinned (OpenSpec.ofChange fnTextSpec)

/-- ITS FALSE NEIGHBOUR: 'it returns false'. Refute it at one input. -/
def fnTextWrong : ChangeSpec := { name := "fnText", fn := fun _ => fun
  | [d1, d2] => { results := [.lit (.bool false)], args := [d1, d2] }
  | _ => none }
def FnTextWrongFalsely : Prop := fnTextRow.holds Try.pinned (OpenSpec.ofChange fnTextWrong)

/-- 'laws.FnMagic': WHATEVER THE INPUT: true; the input reads as it did. -/
def fnMagicSpec : ChangeSpec := { name := "fnMagic", fn := fun _ => fun
  | [d] => { results := [.lit (.bool true)], args := [d] }
  | _ => none }
def fnMagicRow : OpenClaim := { program := "ytgnobmakaejjeaa", sum := "3b19a48e9b4cf030fad7ba5a91efab039fdb46d565a23b0bc22ce260fdcec02f", func := "loop.example/pub-g03341/laws.FnMagic", spec := "fnMagic", unfollowed := true, recurses := true, apart := false }
def FnMagicSaid : Prop := fnMagicRow.holds Try.pinned (OpenSpec.ofChange fnMagicSpec)

/-- ITS FALSE NEIGHBOUR: 'it returns false'. Refute it at one input. -/
def fnMagicWrong : ChangeSpec := { name := "fnMagic", fn := fun _ => fun
  | [d] => { results := [.lit (.bool false)], args := [d] }
  | _ => none }
def FnMagicWrongFalsely : Prop := fnMagicRow.holds Try.pinned (OpenSpec.ofChange fnMagicWrong)

/- THE SECOND FORM. 'bulk': how many values and letters a reading holds, each counted each time it is reached (what is shared counts as often as it is met; a slice's spare places count too). A statement '..UptoSaid' is the law's where the arguments, and the package variables that the reading takes, are together of bulk at most 1048576: NARROWER than '..Said'. Prove '..Said' where nothing that the law and all that it calls make is longer than what came in: it says more and counts as full. Else prove '..UptoSaid'. A law counts once. -/
mutual
def uptoBulk {H : Type} : DataW H → Nat
  | .lit (.string bytes) => bytes.length + 1
  | .lit _ => 1
  | .nil => 1
  | .ptr d => uptoBulk d + 1
  | .slice elems spare => uptoBulkAll elems + uptoBulkAll spare + 1
  | .agg parts => uptoBulkAll parts + 1
  | .iface _ d => uptoBulk d + 1
  | .map entries => uptoBulkEntries entries + 1
  | .held _ => 1
def uptoBulkAll {H : Type} : List (DataW H) → Nat
  | [] => 0
  | d :: r => uptoBulk d + uptoBulkAll r
def uptoBulkEntries {H : Type} : List (Lit × DataW H) → Nat
  | [] => 0
  | x :: r => uptoBulkEntry x + uptoBulkEntries r
def uptoBulkEntry {H : Type} : Lit × DataW H → Nat
  | (.string bytes, d) => bytes.length + uptoBulk d + 1
  | (_, d) => uptoBulk d + 1
 end
def uptoSmall : (H : Type) → List (DataW H) → Bool := fun _ ds => decide (uptoBulkAll ds ≤ 1048576)
def OpenSpec.upto (s : _root_.Go.ChangeSpec) : _root_.Go.OpenSpec := { _root_.Go.OpenSpec.ofChange s with cond := some uptoSmall }

/-- 'laws.FnCString', WHERE WHAT IT READS IS OF BULK AT MOST 1048576: true; the input reads as it did. -/
def fnCStringUptoRow : OpenClaim := { program := "ytgnobmakaejjeaa", sum := "3b19a48e9b4cf030fad7ba5a91efab039fdb46d565a23b0bc22ce260fdcec02f", func := "loop.example/pub-g03341/laws.FnCString", spec := "fnCString", unfollowed := true, recurses := true, apart := false, narrowed := true }
def FnCStringUptoSaid : Prop := fnCStringUptoRow.holds Try.pinned (OpenSpec.upto fnCStringSpec)

/-- 'laws.FnText', WHERE WHAT IT READS IS OF BULK AT MOST 1048576: true; the input reads as it did. -/
def fnTextUptoRow : OpenClaim := { program := "ytgnobmakaejjeaa", sum := "3b19a48e9b4cf030fad7ba5a91efab039fdb46d565a23b0bc22ce260fdcec02f", func := "loop.example/pub-g03341/laws.FnText", spec := "fnText", unfollowed := true, recurses := true, apart := false, narrowed := true }
def FnTextUptoSaid : Prop := fnTextUptoRow.holds Try.pinned (OpenSpec.upto fnTextSpec)

/-- 'laws.FnMagic', WHERE WHAT IT READS IS OF BULK AT MOST 1048576: true; the input reads as it did. -/
def fnMagicUptoRow : OpenClaim := { program := "ytgnobmakaejjeaa", sum := "3b19a48e9b4cf030fad7ba5a91efab039fdb46d565a23b0bc22ce260fdcec02f", func := "loop.example/pub-g03341/laws.FnMagic", spec := "fnMagic", unfollowed := true, recurses := true, apart := false, narrowed := true }
def FnMagicUptoSaid : Prop := fnMagicUptoRow.holds Try.pinned (OpenSpec.upto fnMagicSpec)

end Rows
end Go.Proofs.Ytgnobmakaejjeaa
