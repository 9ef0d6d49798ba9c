/- What the rows' list of package variables gives the walks: io's errors stand in their variables; and a world that meets the list. -/
import Derived.Test.YtpdjolkbjcdimaaDoorCards
import Derived.Test.YtpdjolkbjcdimaaDoorTie
import Derived.Test.YtpdjolkbjcdimaaDoorFull
import Derived.LaidLaws
import Derived.LaidMore
import Derived.LaidHandle
import Derived.MakeChecks
import Derived.Deep.DeepHandedRow
import Derived.Deep.DeepWitnessRowRef
import Derived.Lib.LaidTab
namespace Go.Proofs.YtpdjolkbjcdimaaDoor
open Go.ChangeShapes Go.WideShapes Go.ChangeAt Go.RowKit

def laid3 : List (String × DataW Unit) := [("io.ErrShortBuffer", Rows.laid_io_ErrShortBuffer), ("io.EOF", Rows.laid_io_EOF), ("io.ErrUnexpectedEOF", Rows.laid_io_ErrUnexpectedEOF)]
theorem gShort : Tryd.prog.globalNamed "io.ErrShortBuffer" = some 3 := by kernel_rfl
theorem gEOF : Tryd.prog.globalNamed "io.EOF" = some 2 := by kernel_rfl
theorem gUnx : Tryd.prog.globalNamed "io.ErrUnexpectedEOF" = some 1 := by kernel_rfl
theorem gShortType : (Tryd.prog.globals[3]?).map (·.type) = some 54 := by kernel_rfl
theorem gEOFType : (Tryd.prog.globals[2]?).map (·.type) = some 54 := by kernel_rfl
theorem gUnxType : (Tryd.prog.globals[1]?).map (·.type) = some 54 := by kernel_rfl
theorem starName : "*" ++ "errors.errorString" = "*errors.errorString" := by decide
set_option maxRecDepth 100000 in
theorem errRow (u : TypeId) (h : Tryd.prog.typeName? 3 u = some "*errors.errorString") : u = 122 :=
  typeName_ptr_named (nm := "errors.errorString") (by rw [starName]; kernel_rfl) (by kernel_rfl) (by decide) u (by rw [starName]; exact h)
theorem cellsErr : Tryd.prog.cellsOf 124 = 1 := by kernel_rfl
theorem cellsStr : Tryd.prog.cellsOf 9 = 1 := by kernel_rfl

set_option maxRecDepth 100000 in
theorem eofs_of_laid {W : World} (h : laidMetH Tryd.prog laid3 W) : Eofs W := by
  rw [MakeChecks.laidMetH_plain _ _ _ (by kernel_rfl)] at h
  obtain ⟨ps, ⟨g0, t0, cs0, f0, p0, q0, hg0, ht0, hv0, hd0, ⟨g1, t1, cs1, f1, p1, q1, hg1, ht1, hv1, hd1, ⟨g2, t2, cs2, f2, p2, q2, hg2, ht2, hv2, hd2, hq2, e2⟩, e1⟩, e0⟩, hnd, hrows⟩ := h
  obtain rfl := Option.some.inj (gShort.symm.trans hg0)
  obtain rfl := Option.some.inj (gEOF.symm.trans hg1)
  obtain rfl := Option.some.inj (gUnx.symm.trans hg2)
  obtain rfl := Option.some.inj (gEOFType.symm.trans ht1)
  obtain rfl := Option.some.inj (gUnxType.symm.trans ht2)
  have hq2' : q2 = [] := hq2
  subst hq2'
  subst e2
  subst e1
  subst e0
  obtain ⟨l1⟩ := cs1
  obtain ⟨l2⟩ := cs2
  have ok1 : ∀ u v, l1 = [.iface u v] → Value.okWide Tryd.prog W .any 0 u v := fun u v e => by
    subst e
    exact (hrows 2 0 (by simp [MemPlace.row])).2 u v (by simpa using World.var?_cell hg1 hv1 0)
  have ok2 : ∀ u v, l2 = [.iface u v] → Value.okWide Tryd.prog W .any 0 u v := fun u v e => by
    subst e
    exact (hrows 1 0 (by simp [MemPlace.row])).2 u v (by simpa using World.var?_cell hg2 hv2 0)
  obtain ⟨a1, s1, rfl, _⟩ := errorString_of_trod Tryd.underlying54 errRow Tryd.underlying122 Tryd.underlying124 rfl rfl Tryd.underlying9 cellsErr cellsStr hd1 ok1
  obtain ⟨a2, s2, rfl, _⟩ := errorString_of_trod Tryd.underlying54 errRow Tryd.underlying122 Tryd.underlying124 rfl rfl Tryd.underlying9 cellsErr cellsStr hd2 ok2
  exact ⟨⟨a1, by simpa using World.var?_cell hg1 hv1 0⟩, ⟨a2, by simpa using World.var?_cell hg2 hv2 0⟩⟩

set_option maxRecDepth 100000 in
theorem door_met (os : Os) (args : Array Value) : laidMet Tryd.prog laid3 ((World.doorLaid Tryd.prog 400 os).forCall (fun _ _ => 0) ⟨#[], args, []⟩).memory :=
  laidMet_of_run' 8 (by kernel_rfl) (by kernel_rfl)
set_option maxRecDepth 100000 in
theorem door_metH (os : Os) (args : Array Value) : laidMetH Tryd.prog laid3 ((World.doorLaid Tryd.prog 400 os).forCall (fun _ _ => 0) ⟨#[], args, []⟩).memory := by
  rw [MakeChecks.laidMetH_plain _ _ _ (by kernel_rfl)]
  exact door_met os args
end Go.Proofs.YtpdjolkbjcdimaaDoor
