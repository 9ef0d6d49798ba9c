/- impl.copied: a copy of bytes, in new memory. -/
import Derived.Test.YtpdjolkbjcdimaaDoorChecked
import Derived.Test.YtpdjolkbjcdimaaDoorMem
import Derived.Deep.QuietTactic
import Derived.BigQuiet
import Derived.WalkSpells
namespace Go.Proofs.YtpdjolkbjcdimaaDoor
open Go.RowKit

theorem info_u8 : (Tryd.prog.info? 5).map (fun i => (i.zero, i.size, i.bytes)) = some (some (.int .u8 0), 1, 1) := by kernel_rfl

/-- A copy of bytes: in new memory. -/
theorem copied_any (A : Option Addr) (l : List UInt8) (c : Nat) (w : World) (hb : Bs w A l) (hl : l.length ≤ 140737488355328) :
    Calls Tryd.prog 22 #[.slice A l.length c] w fun e w' => ∃ A' c', e = .returned (.slice A' l.length c') ∧ w'.ownsRow w.heap.size 5 1 (.slice A' l.length c') l.length (bvs l) ∧ Below w.heap.size w w' := by
  obtain ⟨i0, hi, hz0, hz1, hz2⟩ := info_parts info_u8
  go_enter Tryd.func22, Tryd.ntmps22
  go_wp2_with (at_builtin; refine wpList_append_src rfl _ _ 22 rfl w.heap.size 5 i0 (.int .u8 0) 1 Tryd.underlying22 hi hz0 hz1 hz2 rfl (.slice none 0 0) 0 [] rfl (World.ownsRow_nil _ _ _ _) A l.length c (bvs l) rfl (bvs_length l) hb.none_ hb.cells_ (bvs_one l) (by simp only [maxLen]; omega) (by omega) (Nat.le_refl _) ?_; intro v' w1 hown hg hat)
  have hv : ∃ A' c', v' = .slice A' l.length c' := by
    rcases hown.2 with ⟨rfl, h0⟩ | ⟨g, cap, cur, rfl, _⟩
    · exact ⟨none, 0, by rw [show l.length = 0 by omega]⟩
    · exact ⟨some ⟨g, 0, none⟩, cap, by simp⟩
  obtain ⟨A', c', hv⟩ := hv
  go_ret
  refine ⟨A', c', by simp [hv], by rw [← hv]; simpa using hown, (Below.refl _ _).grown hg (Nat.le_refl _) (by simp [Value.ownBlock])⟩

end Go.Proofs.YtpdjolkbjcdimaaDoor
