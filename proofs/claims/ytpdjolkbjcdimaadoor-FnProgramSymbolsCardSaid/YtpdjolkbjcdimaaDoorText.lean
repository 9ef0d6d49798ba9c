/- The reference's Upto: what it computes. -/
import Derived.Test.YtpdjolkbjcdimaaDoorChecked
import Derived.Test.YtpdjolkbjcdimaaDoorCopied
import Derived.Deep.QuietTactic
import Derived.BigQuiet
import Derived.WalkSpells
namespace Go.Proofs.YtpdjolkbjcdimaaDoor
open Go.RowKit

/-- The reference's Upto: the bytes ahead of the first 0. -/
theorem upto_any (A : Option Addr) (l : List UInt8) (c : Nat) (w : World) (hb : Bs w A l) (hc : l.length ≤ c) (hm : c ≤ maxLen) :
    Calls Tryd.prog 48 #[.slice A l.length c] w fun e w' => e = .returned (.slice A (upto l).length c) ∧ w = w' := by
  unfold maxLen at hm
  go_enter Tryd.func48, Tryd.ntmps48
  go_wp2
  go_loop [3] (fun i => ∃ k : Nat, k ≤ l.length ∧ i = .int .i64 k ∧ ∀ j, j < k → l[j]?.getD 0 ≠ 0) (fun i => l.length - (intOf i).toNat)
  case atStart => exact ⟨0, Nat.zero_le _, rfl, fun j hj => by omega⟩
  case round =>
    obtain ⟨k, hk, rfl, hnz⟩ := hrel
    by_cases hlt : k < l.length
    · obtain ⟨b, o, rfl, _, hcell⟩ := hb.at_ hlt
      have hck := hcell k hlt
      have hxk : l[k]? = some l[k] := List.getElem?_eq_getElem hlt
      generalize l[k] = x at hxk
      rw [hxk] at hck
      simp only [Option.getD_some] at hck
      have hnn : l[k]?.getD 0 = x := by rw [hxk]; rfl
      have HX := Lib.hid hnn
      clear hcell hb hxk hnn
      by_cases hz : x = 0
      · subst hz
        have HF := Lib.hid (upto_at l k hlt hnz HX.out)
        clear hnz
        go_wp2
        go_ret
        exact ⟨by rw [HF.out]; simp, rfl⟩
      · have hzz : ((x.toNat : Int) == 0) = false := by
          rw [beq_eq_false_iff_ne]
          intro h0
          exact hz (UInt8.toNat_inj.1 (by simpa using h0))
        go_wp2
        go_round
        case rel => exact ⟨k + 1, by omega, by go_num, fun j hj => by
          rcases Nat.lt_or_ge j k with h | h
          · exact hnz j h
          · obtain rfl : j = k := by omega
            rw [HX.out]; exact hz⟩
        case measure => simp [intOf]; omega
    · obtain rfl : k = l.length := by omega
      have HU := Lib.hid (upto_all l hnz)
      clear hb hnz
      go_wp2
      go_ret
      exact ⟨by rw [HU.out]; simp, rfl⟩
end Go.Proofs.YtpdjolkbjcdimaaDoor
