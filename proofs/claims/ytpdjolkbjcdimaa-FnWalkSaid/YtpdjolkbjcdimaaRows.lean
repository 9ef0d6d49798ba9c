/-
  No cell of these rows narrows 'for every input' (looked for: loops, veiled, ifaces, maps, wideKeys, modest, calm, conditions, laid).
  DERIVED. THE GIVEN ROWS OF THIS SEAT. 2 by the template 'for every input the law returns true; each argument reads behind the call as it read before'; 0 by the template 'total and deterministic' (their statements: YtpdjolkbjcdimaaTotals.lean).
  GIVEN WITH THE SEED: the statements are not yours to turn. If you find one false, say at which input.
  Laid BY PROGRAM, IN A SANDBOX (cutbox-rows.mjs): the forced cells as the released guide's own fill.sh prints them over the translation 1ba0551b7339c9af… (all of the seat's roots in one cut). By AI agents, Wed Nov 11 2026. No macro, syntax, notation, axiom, sorry.
-/
import Derived.Test.YtpdjolkbjcdimaaChecked
import GoSem.Claim
import GoSem.ClaimJoined
import GoSem.ClaimMapViews
import Derived.JoinedTies
import Derived.KernelRfl
namespace Go.Proofs.Ytpdjolkbjcdimaa
/- THE CELL 'sum', in the pinned program and in every row, IS THE sha256 OF THE DUMP (.gsa) THAT YtpdjolkbjcdimaaProg.lean LOADS. Nothing in Lean hashes anything: it is a label: what it is worth is what the hold of that sum in a sandbox is worth. -/
noncomputable def Try.pinned : Pinned := { name := "ytpdjolkbjcdimaa", sum := "1ba0551b7339c9af7c57c1fa9ad81ae64c7ab1af70c01343a57d3073767df897", checked := Try.checked }
namespace Rows
def none {H : Type} : Left H := { results := [], args := [] }

/-- 'laws.FnWalk': WHATEVER THE INPUT: true; the input reads as it did. -/
def fnWalkSpec : ChangeSpec := { name := "fnWalk", fn := fun _ => fun
  | [d1, d2] => { results := [.lit (.bool true)], args := [d1, d2] }
  | _ => none }
def fnWalkRow : OpenClaim := { program := "ytpdjolkbjcdimaa", sum := "1ba0551b7339c9af7c57c1fa9ad81ae64c7ab1af70c01343a57d3073767df897", func := "loop.example/pub-g03341/laws.FnWalk", spec := "fnWalk", unfollowed := true, recurses := true, apart := false }
def FnWalkSaid : Prop := fnWalkRow.holds Try.pinned (OpenSpec.ofChange fnWalkSpec)

/-- ITS FALSE NEIGHBOUR: 'it returns false'. Refute it at one input. -/
def fnWalkWrong : ChangeSpec := { name := "fnWalk", fn := fun _ => fun
  | [d1, d2] => { results := [.lit (.bool false)], args := [d1, d2] }
  | _ => none }
def FnWalkWrongFalsely : Prop := fnWalkRow.holds Try.pinned (OpenSpec.ofChange fnWalkWrong)

/-- 'laws.FnSymbols': WHATEVER THE INPUT: true; the input reads as it did. -/
def fnSymbolsSpec : ChangeSpec := { name := "fnSymbols", fn := fun _ => fun
  | [d1, d2] => { results := [.lit (.bool true)], args := [d1, d2] }
  | _ => none }
def fnSymbolsRow : OpenClaim := { program := "ytpdjolkbjcdimaa", sum := "1ba0551b7339c9af7c57c1fa9ad81ae64c7ab1af70c01343a57d3073767df897", func := "loop.example/pub-g03341/laws.FnSymbols", spec := "fnSymbols", unfollowed := true, recurses := true, apart := false }
def FnSymbolsSaid : Prop := fnSymbolsRow.holds Try.pinned (OpenSpec.ofChange fnSymbolsSpec)

/-- ITS FALSE NEIGHBOUR: 'it returns false'. Refute it at one input. -/
def fnSymbolsWrong : ChangeSpec := { name := "fnSymbols", fn := fun _ => fun
  | [d1, d2] => { results := [.lit (.bool false)], args := [d1, d2] }
  | _ => none }
def FnSymbolsWrongFalsely : Prop := fnSymbolsRow.holds Try.pinned (OpenSpec.ofChange fnSymbolsWrong)

/- THE SECOND FORM. 'bulk': how many values and letters a reading holds, each counted each time it is reached (what is shared counts as often as it is met; a slice's spare places count too). A statement '..UptoSaid' is the law's where the arguments, and the package variables that the reading takes, are together of bulk at most 1048576: NARROWER than '..Said'. Prove '..Said' where nothing that the law and all that it calls make is longer than what came in: it says more and counts as full. Else prove '..UptoSaid'. A law counts once. -/
mutual
def uptoBulk {H : Type} : DataW H → Nat
  | .lit (.string bytes) => bytes.length + 1
  | .lit _ => 1
  | .nil => 1
  | .ptr d => uptoBulk d + 1
  | .slice elems spare => uptoBulkAll elems + uptoBulkAll spare + 1
  | .agg parts => uptoBulkAll parts + 1
  | .iface _ d => uptoBulk d + 1
  | .map entries => uptoBulkEntries entries + 1
  | .held _ => 1
def uptoBulkAll {H : Type} : List (DataW H) → Nat
  | [] => 0
  | d :: r => uptoBulk d + uptoBulkAll r
def uptoBulkEntries {H : Type} : List (Lit × DataW H) → Nat
  | [] => 0
  | x :: r => uptoBulkEntry x + uptoBulkEntries r
def uptoBulkEntry {H : Type} : Lit × DataW H → Nat
  | (.string bytes, d) => bytes.length + uptoBulk d + 1
  | (_, d) => uptoBulk d + 1
 end
def uptoSmall : (H : Type) → List (DataW H) → Bool := fun _ ds => decide (uptoBulkAll ds ≤ 1048576)
def OpenSpec.upto (s : _root_.Go.ChangeSpec) : _root_.Go.OpenSpec := { _root_.Go.OpenSpec.ofChange s with cond := some uptoSmall }

/-- 'laws.FnWalk', WHERE WHAT IT READS IS OF BULK AT MOST 1048576: true; the input reads as it did. -/
def fnWalkUptoRow : OpenClaim := { program := "ytpdjolkbjcdimaa", sum := "1ba0551b7339c9af7c57c1fa9ad81ae64c7ab1af70c01343a57d3073767df897", func := "loop.example/pub-g03341/laws.FnWalk", spec := "fnWalk", unfollowed := true, recurses := true, apart := false, narrowed := true }
def FnWalkUptoSaid : Prop := fnWalkUptoRow.holds Try.pinned (OpenSpec.upto fnWalkSpec)

/-- 'laws.FnSymbols', WHERE WHAT IT READS IS OF BULK AT MOST 1048576: true; the input reads as it did. -/
def fnSymbolsUptoRow : OpenClaim := { program := "ytpdjolkbjcdimaa", sum := "1ba0551b7339c9af7c57c1fa9ad81ae64c7ab1af70c01343a57d3073767df897", func := "loop.example/pub-g03341/laws.FnSymbols", spec := "fnSymbols", unfollowed := true, recurses := true, apart := false, narrowed := true }
def FnSymbolsUptoSaid : Prop := fnSymbolsUptoRow.holds Try.pinned (OpenSpec.upto fnSymbolsSpec)

end Rows
end Go.Proofs.Ytpdjolkbjcdimaa
