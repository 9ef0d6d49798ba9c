/- The reference's Same: two lists of the same numbers are the same. -/
import Derived.Test.YtjjpjobkdipahaaDoorChecked
import Derived.Test.YtjjpjobkdipahaaDoorFields
import Derived.Deep.QuietTactic
import Derived.BigQuiet
import Derived.WalkSpells
namespace Go.Proofs.YtjjpjobkdipahaaDoor
open Go.RowKit

set_option maxHeartbeats 400000 in
theorem same_any (A B : Option Addr) (xs : List Nat) (n c d : Nat) (w : World) (hn : n = xs.length) (ha : Us w A xs) (hb : Us w B xs) (hx : xs.length ≤ 100000) :
    Calls Tryd.prog 8 #[.slice A n c, .slice B n d] w fun e w' => e = .returned (.bool true) ∧ ∃ k, w' = w.drewN k := by
  subst hn
  go_enter Tryd.func8, Tryd.ntmps8
  go_wp2_with fail
  go_loopw [5] (fun i wr => ∃ k q : Nat, k ≤ xs.length ∧ i = .int .i64 k ∧ wr = w.drewN q) (fun i _ => xs.length - (intOf i).toNat)
  case atStart => exact ⟨0, 0, Nat.zero_le _, rfl, rfl⟩
  case round =>
    obtain ⟨k, q, hk, rfl, rfl⟩ := hrel
    by_cases hlt : k < xs.length
    · obtain ⟨b1, o1, rfl, _, h1⟩ := ha.at_ hlt
      obtain ⟨b2, o2, rfl, _, h2⟩ := hb.at_ hlt
      have k1 := h1 k hlt
      have k2 := h2 k hlt
      have hxk : xs[k]? = some xs[k] := List.getElem?_eq_getElem hlt
      generalize xs[k] = x at hxk
      rw [hxk] at k1 k2
      simp only [Option.getD_some] at k1 k2
      clear h1 h2 hxk ha hb
      go_wp2_with fail
      go_quiet (fail)
      go_wp2_with fail
      go_roundw
      case rel => exact ⟨k + 1, _, by omega, by go_num, rfl⟩
      case measure => simp [intOf]; omega
    · obtain rfl : k = xs.length := by omega
      clear ha hb
      go_wp2_with fail
      go_ret
      exact ⟨by simp, _, rfl⟩
end Go.Proofs.YtjjpjobkdipahaaDoor
