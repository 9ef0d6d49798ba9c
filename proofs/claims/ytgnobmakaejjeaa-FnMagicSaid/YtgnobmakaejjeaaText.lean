/- impl.copied, xcoff's cstring and the reference's Upto: what each computes. -/
import Derived.Test.YtgnobmakaejjeaaChecked
import Derived.Test.YtgnobmakaejjeaaMem
import Derived.Deep.QuietTactic
import Derived.BigQuiet
import Derived.WalkSpells
namespace Go.Proofs.Ytgnobmakaejjeaa
open Go.RowKit

theorem info_u8 : (Try.prog.info? 5).map (fun i => (i.zero, i.size, i.bytes)) = some (some (.int .u8 0), 1, 1) := by kernel_rfl

/-- A copy of bytes: in new memory. -/
theorem copied_any (A : Option Addr) (l : List UInt8) (c : Nat) (w : World) (hb : Bs w A l) (hl : l.length ≤ 140737488355328) :
    Calls Try.prog 14 #[.slice A l.length c] w fun e w' => ∃ A' c', e = .returned (.slice A' l.length c') ∧ w'.ownsRow w.heap.size 5 1 (.slice A' l.length c') l.length (bvs l) ∧ Below w.heap.size w w' := by
  obtain ⟨i0, hi, hz0, hz1, hz2⟩ := info_parts info_u8
  go_enter Try.func14, Try.ntmps14
  go_wp2_with (at_builtin; refine wpList_append_src rfl _ _ 22 rfl w.heap.size 5 i0 (.int .u8 0) 1 Try.underlying22 hi hz0 hz1 hz2 rfl (.slice none 0 0) 0 [] rfl (World.ownsRow_nil _ _ _ _) A l.length c (bvs l) rfl (bvs_length l) hb.none_ hb.cells_ (bvs_one l) (by simp only [maxLen]; omega) (by omega) (Nat.le_refl _) ?_; intro v' w1 hown hg hat)
  have hv : ∃ A' c', v' = .slice A' l.length c' := by
    rcases hown.2 with ⟨rfl, h0⟩ | ⟨g, cap, cur, rfl, _⟩
    · exact ⟨none, 0, by rw [show l.length = 0 by omega]⟩
    · exact ⟨some ⟨g, 0, none⟩, cap, by simp⟩
  obtain ⟨A', c', hv⟩ := hv
  go_ret
  refine ⟨A', c', by simp [hv], by rw [← hv]; simpa using hown, (Below.refl _ _).grown hg (Nat.le_refl _) (by simp [Value.ownBlock])⟩

/-- xcoff's cstring: the text up to the first 0. -/
theorem cstring_any (A : Option Addr) (l : List UInt8) (c : Nat) (w : World) (hb : Bs w A l) (hc : l.length ≤ c) (hm : c ≤ maxLen) :
    Calls Try.prog 19 #[.slice A l.length c] w fun e w' => e = .returned (.string (txt (upto l))) ∧ w = w' := by
  unfold maxLen at hm
  go_enter Try.func19, Try.ntmps19
  go_wp2
  go_loop [3] (fun i => ∃ k : Nat, k ≤ l.length ∧ i = .int .i64 k ∧ ∀ j, j < k → l[j]?.getD 0 ≠ 0) (fun i => l.length - (intOf i).toNat)
  case atStart => exact ⟨0, Nat.zero_le _, rfl, fun j hj => by omega⟩
  case round =>
    obtain ⟨k, hk, rfl, hnz⟩ := hrel
    by_cases hlt : k < l.length
    · obtain ⟨b, o, rfl, _, hcell⟩ := hb.at_ hlt
      have hcv := (hb.take k).text (P := Try.prog) k c (by simp; omega) 22 5 9 Try.underlying22 Try.underlying5 Try.underlying9
      have hck := hcell k hlt
      have hxk : l[k]? = some l[k] := List.getElem?_eq_getElem hlt
      generalize l[k] = x at hxk
      rw [hxk] at hck
      simp only [Option.getD_some] at hck
      have hnn : l[k]?.getD 0 = x := by rw [hxk]; rfl
      have HX := Lib.hid hnn
      clear hcell hb hxk hnn
      by_cases hz : x = 0
      · subst hz
        have hfin : txt (l.take k) = txt (upto l) := by rw [upto_take l, upto_at l k hlt hnz HX.out]
        have HF := Lib.hid hfin
        clear hfin hnz
        go_wp2
        go_ret
        exact ⟨by rw [← HF.out]; simp, rfl⟩
      · have hzz : ((x.toNat : Int) != 0) = true := by
          rw [bne_iff_ne]
          intro h0
          exact hz (UInt8.toNat_inj.1 (by simpa using h0))
        go_wp2
        go_round
        case rel => exact ⟨k + 1, by omega, by go_num, fun j hj => by
          rcases Nat.lt_or_ge j k with h | h
          · exact hnz j h
          · obtain rfl : j = k := by omega
            rw [HX.out]; exact hz⟩
        case measure => simp [intOf]; omega
    · obtain rfl : k = l.length := by omega
      have hcv := hb.text (P := Try.prog) l.length c rfl 22 5 9 Try.underlying22 Try.underlying5 Try.underlying9
      have HU := Lib.hid (upto_all l hnz)
      have ha := addr_zero A
      clear hb hnz
      go_wp2
      go_ret
      exact ⟨by rw [HU.out]; simp, rfl⟩

/-- The reference's Upto: the bytes ahead of the first 0. -/
theorem upto_any (A : Option Addr) (l : List UInt8) (c : Nat) (w : World) (hb : Bs w A l) (hc : l.length ≤ c) (hm : c ≤ maxLen) :
    Calls Try.prog 7 #[.slice A l.length c] w fun e w' => e = .returned (.slice A (upto l).length c) ∧ w = w' := by
  unfold maxLen at hm
  go_enter Try.func7, Try.ntmps7
  go_wp2
  go_loop [3] (fun i => ∃ k : Nat, k ≤ l.length ∧ i = .int .i64 k ∧ ∀ j, j < k → l[j]?.getD 0 ≠ 0) (fun i => l.length - (intOf i).toNat)
  case atStart => exact ⟨0, Nat.zero_le _, rfl, fun j hj => by omega⟩
  case round =>
    obtain ⟨k, hk, rfl, hnz⟩ := hrel
    by_cases hlt : k < l.length
    · obtain ⟨b, o, rfl, _, hcell⟩ := hb.at_ hlt
      have hck := hcell k hlt
      have hxk : l[k]? = some l[k] := List.getElem?_eq_getElem hlt
      generalize l[k] = x at hxk
      rw [hxk] at hck
      simp only [Option.getD_some] at hck
      have hnn : l[k]?.getD 0 = x := by rw [hxk]; rfl
      have HX := Lib.hid hnn
      clear hcell hb hxk hnn
      by_cases hz : x = 0
      · subst hz
        have HF := Lib.hid (upto_at l k hlt hnz HX.out)
        clear hnz
        go_wp2
        go_ret
        exact ⟨by rw [HF.out]; simp, rfl⟩
      · have hzz : ((x.toNat : Int) == 0) = false := by
          rw [beq_eq_false_iff_ne]
          intro h0
          exact hz (UInt8.toNat_inj.1 (by simpa using h0))
        go_wp2
        go_round
        case rel => exact ⟨k + 1, by omega, by go_num, fun j hj => by
          rcases Nat.lt_or_ge j k with h | h
          · exact hnz j h
          · obtain rfl : j = k := by omega
            rw [HX.out]; exact hz⟩
        case measure => simp [intOf]; omega
    · obtain rfl : k = l.length := by omega
      have HU := Lib.hid (upto_all l hnz)
      clear hb hnz
      go_wp2
      go_ret
      exact ⟨by rw [HU.out]; simp, rfl⟩
end Go.Proofs.Ytgnobmakaejjeaa
