/- impl.CString: the text up to the first 0. -/
import Derived.Test.YtgnobmakaejjeaaText
import Derived.Defers
import Derived.Recover
namespace Go.Proofs.Ytgnobmakaejjeaa
open Go.RowKit

/-- The deferred closure of a frame that returns: recover finds nothing. -/
theorem cstring_catch (p : Addr) (w : World) :
    CallsD Try.prog 12 #[.pointer (some p)] .returning w fun e u' w' => e = .returned (.tuple #[]) ∧ u' = .returning ∧ w' = w := by
  refine callsD_of_wpS Try.func12 rfl fun c₀ cs hu => ?_
  apply wpS_seq
  apply wpS_region
  simp [wpOpsS, go_sem, recoverD, hu, Try.ntmps12, Exit.thenS]
  refine wpS_cond (t := false) (by simp [Act.eval, Array.replicate]) ?_
  simp only [Bool.false_eq_true, if_false]
  refine wpS_of_wp (wp_skip ?_)
  cases c₀
  simp_all [bodyPostS, results, Try.results12]

theorem zzcstring_any (A : Option Addr) (l : List UInt8) (c : Nat) (w : World) (hb : Bs w A l) (hc : l.length ≤ c) (hm : c ≤ maxLen) :
    Calls Try.prog 13 #[.slice A l.length c] w fun e w' => e = .returned (.string (txt (upto l))) ∧ w = w' := by
  go_enter Try.func13, Try.ntmps13
  go_wp2_with (go_at_call 19; refine (cstring_any A l c _ hb hc hm).mono ?_; rintro e w' ⟨rfl, rfl⟩)
  go_ret
  exact ⟨rfl, rfl⟩

set_option maxHeartbeats 400000 in
theorem impl_cstring (A : Option Addr) (l : List UInt8) (c : Nat) (w : World) (hb : Bs w A l) (hl : l.length ≤ 140737488355328) :
    Calls Try.prog 6 #[.slice A l.length c] w fun e w' => e = .returned (.string (txt (upto l))) ∧ Below w.heap.size w w' := by
  have hmf : ∀ (fn : Fn) (first cap : Array Value) (w : World), (Instr.makeFunc fn first cap).run Try.prog w = .ok (.func fn first cap) w := fun _ _ _ _ => rfl
  go_enter_defers Try.func6, Try.ntmps6
  go_wp2_with fail
  refine (copied_any A l c _ (hb.alloc _) hl).mono ?_
  rintro e w1 ⟨A', c', rfl, hown, hbel⟩
  go_wp2_with fail
  obtain ⟨hb1, _, hc1, hm1, _⟩ := Bs.of_own hown
  refine (zzcstring_any A' l c' _ hb1 hc1 hm1).mono ?_
  rintro e w2 ⟨rfl, rfl⟩
  have hB : Blk w1 w.heap.size 9 _ := (Blk.new w 9 _).below hbel (by simp)
  have hc0 := hB.cell 0
  have hf0 := hB.frozen 0
  simp only [List.getElem?_toArray, List.getElem?_cons_zero] at hc0
  have hkeep : Below w.heap.size w w1 := ((Below.refl _ _).alloc (Nat.le_refl _) _).trans (hbel.mono (by simp))
  clear hown hb1 hb
  go_wp2
  refine leaves_cons (f := 12) (args := #[.pointer (some ⟨w.heap.size, 0, none⟩)]) (by simp) (by simp [go_sem]) ?_
  refine (cstring_catch ⟨w.heap.size, 0, none⟩ _).mono ?_
  rintro e u' w'' ⟨rfl, rfl, rfl⟩
  have hB2 := hB.set_ 0 (.string (txt (upto l)))
  have hc2 := hB2.cell 0
  simp only [List.setIfInBounds_toArray, List.set_cons_zero, List.getElem?_toArray, List.getElem?_cons_zero] at hc2
  refine ⟨.string (txt (upto l)), ?_, rfl, hkeep.setCell (Nat.le_refl _) _⟩
  simp [results, Try.results6, go_sem, hc2]
end Go.Proofs.Ytgnobmakaejjeaa
