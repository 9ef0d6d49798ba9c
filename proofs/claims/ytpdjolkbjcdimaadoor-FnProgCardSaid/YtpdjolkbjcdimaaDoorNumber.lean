/- The reference's Number: the number that at most eight bytes spell, the highest first. -/
import Derived.Test.YtpdjolkbjcdimaaDoorChecked
import Derived.Test.YtpdjolkbjcdimaaDoorBase
import Derived.WalkSpells
namespace Go.Proofs.YtpdjolkbjcdimaaDoor
open Go.RowKit

theorem number_any (A : Option Addr) (l : List UInt8) (n c : Nat) (w : World) (hn : l.length = n) (h8 : n ≤ 8) (hb : Bs w A l) :
    Calls Tryd.prog 24 #[.slice A n c] w fun e w' => e = .returned (.int .u64 (be l : Nat)) ∧ w = w' := by
  subst hn
  go_enter Tryd.func24, Tryd.ntmps24
  go_wp2
  go_loop [3, 4] (fun out i => ∃ k : Nat, k ≤ l.length ∧ i = .int .i64 k ∧ out = .int .u64 (bev l 0 k : Nat)) (fun _ i => l.length - (intOf i).toNat)
  case atStart => exact ⟨0, Nat.zero_le _, rfl, by rw [bev_zero]; rfl⟩
  case round =>
    obtain ⟨k, hk, rfl, rfl⟩ := hrel
    by_cases hlt : k < l.length
    · obtain ⟨b, o, rfl, _, hcell⟩ := hb.at_ hlt
      have hck := hcell k hlt
      have hs := bev_succ l 0 k (by omega)
      have hbd : bev l 0 k < 256 ^ 7 := Nat.lt_of_lt_of_le (bev_lt l 0 k) (Nat.pow_le_pow_right (by omega) (by omega))
      have hxb := (l[k]?.getD 0).toNat_lt
      simp only [Nat.zero_add] at hs
      have hxk : l[k]? = some l[k] := List.getElem?_eq_getElem hlt
      generalize l[k] = x at hxk
      rw [hxk] at hck hs hxb
      simp only [Option.getD_some] at hck hs hxb
      have HS := Lib.hid hs
      have hbd' : ((bev l 0 k : Nat) : Int) < 72057594037927936 := by omega
      have hxb' : ((x.toNat : Nat) : Int) < 256 := by omega
      clear hcell hb hxk hs hbd hxb
      go_wp2
      go_round
      case rel => exact ⟨k + 1, by omega, by go_num, by rw [HS.out]; simp⟩
      case measure => simp [intOf]; omega
    · obtain rfl : k = l.length := by omega
      have HF := Lib.hid (show bev l 0 l.length = be l by simp [bev])
      clear hb
      go_wp2
      go_ret
      exact ⟨by rw [← HF.out]; simp, rfl⟩
end Go.Proofs.YtpdjolkbjcdimaaDoor
