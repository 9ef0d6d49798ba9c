/- The reference's Bytes: a number as so many bytes, the highest first. -/
import Derived.Test.YtpdjolkbjcdimaaDoorChecked
import Derived.Test.YtpdjolkbjcdimaaDoorMem
import Derived.Test.YtpdjolkbjcdimaaDoorTable
import Derived.WalkSpells
import Derived.Lib.Hide
namespace Go.Proofs.YtpdjolkbjcdimaaDoor
open Go.RowKit

theorem bes_get (v k j : Nat) (h : j < k) : (bes v k)[k - 1 - j]? = some (UInt8.ofNat (v / 256 ^ j)) := by
  induction k with
  | zero => omega
  | succ k ih =>
    by_cases hj : j = k
    · subst hj; simp [bes]
    · have h1 := ih (by omega)
      rw [bes, show k + 1 - 1 - j = (k - 1 - j) + 1 by omega, List.getElem?_cons_succ]
      exact h1
theorem bes_take (v k m : Nat) (h : m < k) : (bes v k).take (k - m) = (bes v k).take (k - (m + 1)) ++ [UInt8.ofNat (v / 256 ^ m)] := by
  have h1 := bes_get v k m h
  rw [show k - m = (k - (m + 1)) + 1 by omega, List.take_add_one, show k - (m + 1) = k - 1 - m by omega, h1]
  rfl
theorem info_u8b : (Tryd.prog.info? 5).map (fun i => (i.zero, i.size, i.bytes)) = some (some (.int .u8 0), 1, 1) := by kernel_rfl

set_option maxHeartbeats 800000 in
theorem bytes_any (v k : Nat) (w : World) (hk : k ≤ 8) :
    Calls Tryd.prog 29 #[.int .u64 v, .int .i64 k] w fun e w' => ∃ A c, e = .returned (.slice A k c) ∧ w'.ownsRow w.heap.size 5 1 (.slice A k c) k (bvs (bes v k)) ∧ Below w.heap.size w w' := by
  obtain ⟨i0, hi, hz0, hz1, hz2⟩ := info_parts info_u8b
  go_enter Tryd.func29, Tryd.ntmps29
  go_wp2_with fail
  go_loopw [5, 6] (fun out i wr => ∃ (m : Nat) (A : Option Addr) (c : Nat), m ≤ k ∧ i = .int .i64 ((m : Int) - 1) ∧ out = .slice A (k - m) c ∧ wr.ownsRow w.heap.size 5 1 (.slice A (k - m) c) (k - m) (bvs ((bes v k).take (k - m))) ∧ Below w.heap.size w wr) (fun _ i _ => ((intOf i) + 1).toNat)
  case atStart =>
    refine ⟨k, _, 0, Nat.le_refl _, rfl, by simp; rfl, ?_, (Below.refl _ _).alloc (Nat.le_refl _) _⟩
    simp only [Nat.sub_self, List.take_zero]
    exact ⟨by simp [bvs], .inr ⟨w.heap.size, 0, #[], rfl, Nat.le_refl _, heap_alloc_new w _, Nat.le_refl _, by simp [maxLen], by simp, by simp [bvs]⟩⟩
  case round =>
    obtain ⟨m, A, c, hm, rfl, rfl, hown, hbel⟩ := hrel
    by_cases h0 : 0 < m
    · obtain ⟨j, rfl⟩ : ∃ j, m = j + 1 := ⟨m - 1, by omega⟩
      have HT := Lib.hid (bes_take v k j (by omega))
      have hdv : ((v / 2 ^ (8 * j) % 256 : Nat) : Int) = (v : Int) / 2 ^ (8 * j) % 256 := by rw [Int.natCast_emod, Int.natCast_ediv, Int.natCast_pow]; rfl
      have HV : Hid ((.int .u8 ((v : Int) / 2 ^ (8 * j) % 256) : Value) = .int .u8 ((UInt8.ofNat (v / 256 ^ j)).toNat : Int)) := by
        show (.int .u8 ((v : Int) / 2 ^ (8 * j) % 256) : Value) = .int .u8 ((UInt8.ofNat (v / 256 ^ j)).toNat : Int)
        rw [← hdv, UInt8.toNat_ofNat', Nat.pow_mul]
      clear hdv
      go_wp2_with (at_builtin; refine wpList_append_src rfl _ _ 22 rfl w.heap.size 5 i0 (.int .u8 0) 1 Tryd.underlying22 hi hz0 hz1 hz2 rfl (.slice A (k - (j + 1)) c) (k - (j + 1)) _ rfl (hown.alloc _) (some ⟨wr.heap.size, 0, none⟩) 1 1 [.int .u8 ((v : Int) / 2 ^ (8 * j) % 256)] rfl rfl (fun h => by cases h) (one_cell wr _ _) (fun u hu => by simp at hu; subst hu; rfl) (by simp only [maxLen]; omega) (by omega) (Nat.le_trans hbel.size (by simp)) ?_; intro v' w3 hown3 hg3 _)
      have hbel3 : Below w.heap.size w w3 := (hbel.alloc hbel.size _).grown hg3 (Nat.le_trans hbel.size (by simp)) (own_base hown)
      rw [show k - (j + 1) + 1 = k - j by omega] at hown3
      obtain ⟨A3, c3, rfl⟩ := own_form hown3
      have hfin : w3.ownsRow w.heap.size 5 1 (.slice A3 (k - j) c3) (k - j) (bvs ((bes v k).take (k - j))) := by
        rw [HT.out]
        have : bvs ((bes v k).take (k - (j + 1)) ++ [UInt8.ofNat (v / 256 ^ j)]) = bvs ((bes v k).take (k - (j + 1))) ++ [.int .u8 ((v : Int) / 2 ^ (8 * j) % 256)] := by
          rw [HV.out]; simp [bvs]
        rw [this]
        exact hown3
      clear hown3 hown hbel
      go_wp2_with fail
      go_roundw
      case rel => exact ⟨j, A3, c3, by omega, rfl, rfl, hfin, hbel3⟩
      case measure => simp [intOf]
    · obtain rfl : m = 0 := by omega
      have HF := Lib.hid (show (bes v k).take k = bes v k from List.take_of_length_le (by rw [bes_length]; omega))
      clear h0
      go_wp2_with fail
      go_ret
      rw [Nat.sub_zero] at hown
      exact ⟨A, c, by simp, by rw [HF.out] at hown; exact hown, hbel⟩
end Go.Proofs.YtpdjolkbjcdimaaDoor
