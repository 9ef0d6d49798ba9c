/- What the list of four package variables gives FnProgramSymbols' walk: io's errors and ErrNoSymbols stand in their variables; and a world that meets the list. -/
import Derived.Test.YtpdjolkbjcdimaaDoorLaid
namespace Go.Proofs.YtpdjolkbjcdimaaDoor
open Go.ChangeShapes Go.WideShapes Go.ChangeAt Go.RowKit

def laid4 : List (String × DataW Unit) := [("io.ErrShortBuffer", Rows.laid_io_ErrShortBuffer), ("io.EOF", Rows.laid_io_EOF), ("io.ErrUnexpectedEOF", Rows.laid_io_ErrUnexpectedEOF), ("loop.example/pub-g03341/pub/plan9obj.ErrNoSymbols", Rows.laid_loop_example_pub_g03341_pub_plan9obj_ErrNoSymbols)]
theorem gNo : Tryd.prog.globalNamed "loop.example/pub-g03341/pub/plan9obj.ErrNoSymbols" = some 0 := by kernel_rfl
theorem gNoType : (Tryd.prog.globals[0]?).map (·.type) = some 54 := by kernel_rfl

set_option maxRecDepth 100000 in
theorem eofs_of_laid4 {W : World} (h : laidMetH Tryd.prog laid4 W) : Eofs W ∧ ∃ a : Addr, W.var? Tryd.prog "loop.example/pub-g03341/pub/plan9obj.ErrNoSymbols" = some #[.iface 122 (.pointer (some a))] := by
  rw [MakeChecks.laidMetH_plain _ _ _ (by kernel_rfl)] at h
  obtain ⟨ps, ⟨g0, t0, cs0, f0, p0, q0, hg0, ht0, hv0, hd0, ⟨g1, t1, cs1, f1, p1, q1, hg1, ht1, hv1, hd1, ⟨g2, t2, cs2, f2, p2, q2, hg2, ht2, hv2, hd2, ⟨g3, t3, cs3, f3, p3, q3, hg3, ht3, hv3, hd3, hq3, e3⟩, e2⟩, e1⟩, e0⟩, hnd, hrows⟩ := h
  obtain rfl := Option.some.inj (gShort.symm.trans hg0)
  obtain rfl := Option.some.inj (gEOF.symm.trans hg1)
  obtain rfl := Option.some.inj (gUnx.symm.trans hg2)
  obtain rfl := Option.some.inj (gNo.symm.trans hg3)
  obtain rfl := Option.some.inj (gEOFType.symm.trans ht1)
  obtain rfl := Option.some.inj (gUnxType.symm.trans ht2)
  obtain rfl := Option.some.inj (gNoType.symm.trans ht3)
  have hq3' : q3 = [] := hq3
  subst hq3'
  subst e3
  subst e2
  subst e1
  subst e0
  obtain ⟨l1⟩ := cs1
  obtain ⟨l2⟩ := cs2
  obtain ⟨l3⟩ := cs3
  have ok1 : ∀ u v, l1 = [.iface u v] → Value.okWide Tryd.prog W .any 0 u v := fun u v e => by
    subst e
    exact (hrows 2 0 (by simp [MemPlace.row])).2 u v (by simpa using World.var?_cell hg1 hv1 0)
  have ok2 : ∀ u v, l2 = [.iface u v] → Value.okWide Tryd.prog W .any 0 u v := fun u v e => by
    subst e
    exact (hrows 1 0 (by simp [MemPlace.row])).2 u v (by simpa using World.var?_cell hg2 hv2 0)
  have ok3 : ∀ u v, l3 = [.iface u v] → Value.okWide Tryd.prog W .any 0 u v := fun u v e => by
    subst e
    exact (hrows 0 0 (by simp [MemPlace.row])).2 u v (by simpa using World.var?_cell hg3 hv3 0)
  obtain ⟨a1, s1, rfl, _⟩ := errorString_of_trod Tryd.underlying54 errRow Tryd.underlying122 Tryd.underlying124 rfl rfl Tryd.underlying9 cellsErr cellsStr hd1 ok1
  obtain ⟨a2, s2, rfl, _⟩ := errorString_of_trod Tryd.underlying54 errRow Tryd.underlying122 Tryd.underlying124 rfl rfl Tryd.underlying9 cellsErr cellsStr hd2 ok2
  obtain ⟨a3, s3, rfl, _⟩ := errorString_of_trod Tryd.underlying54 errRow Tryd.underlying122 Tryd.underlying124 rfl rfl Tryd.underlying9 cellsErr cellsStr hd3 ok3
  exact ⟨⟨⟨a1, by simpa using World.var?_cell hg1 hv1 0⟩, ⟨a2, by simpa using World.var?_cell hg2 hv2 0⟩⟩, a3, hv3⟩

set_option maxRecDepth 100000 in
theorem door_met4 (os : Os) (args : Array Value) : laidMet Tryd.prog laid4 ((World.doorLaid Tryd.prog 400 os).forCall (fun _ _ => 0) ⟨#[], args, []⟩).memory :=
  laidMet_of_run' 8 (by kernel_rfl) (by kernel_rfl)
end Go.Proofs.YtpdjolkbjcdimaaDoor
