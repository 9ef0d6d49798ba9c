/- The byte order's Uint16, Uint32 and Uint64 (the highest byte first), where there are bytes enough. -/
import Derived.Test.YtpdjolkbjcdimaaDoorChecked
import Derived.Test.YtpdjolkbjcdimaaDoorBase
import Derived.Deep.QuietTactic
import Derived.BigQuiet
import Derived.WalkSpells
namespace Go.Proofs.YtpdjolkbjcdimaaDoor
open Go.RowKit

theorem u16_at (b o n c : Nat) (x y : Int) (w : World) (hn : 2 ≤ n) (hx : 0 ≤ x ∧ x < 256) (hy : 0 ≤ y ∧ y < 256)
    (h0 : w.cell? ⟨b, o, none⟩ = some (.int .u8 x)) (h1 : w.cell? ⟨b, o + 1, none⟩ = some (.int .u8 y)) :
    Calls Tryd.prog 52 #[.int .u8 1, .slice (some ⟨b, o, none⟩) n c] w fun e w' => e = .returned (.int .u16 (x * 256 + y)) ∧ ∃ k, w' = w.drewN k := by
  have hr := or16 x y hx hy
  obtain ⟨hx0, hx1⟩ := hx
  obtain ⟨hy0, hy1⟩ := hy
  go_enter Tryd.func52, Tryd.ntmps52
  go_wp2
  go_quiet (fail)
  go_wp2
  go_ret
  exact ⟨by simp, _, rfl⟩

/-- Bytes of l, from its place p on, stand at b's place q. -/
def Stand (w : World) (b q : Nat) (l : List UInt8) (p k : Nat) : Prop := p + k ≤ l.length ∧ ∀ j, j < k → w.cell? ⟨b, q + j, none⟩ = some (.int .u8 ((l[p + j]?.getD 0).toNat : Int))
theorem Stand.part {w : World} {b q : Nat} {l : List UInt8} {p k : Nat} (h : Stand w b q l p k) (i m : Nat) (hi : i + m ≤ k) : Stand w b (q + i) l (p + i) m :=
  ⟨by have := h.1; omega, fun j hj => by rw [Nat.add_assoc, Nat.add_assoc]; exact h.2 (i + j) (by omega)⟩

theorem u16_l (b q n c : Nat) (l : List UInt8) (p : Nat) (w : World) (hn : 2 ≤ n) (h : Stand w b q l p 2) :
    Calls Tryd.prog 52 #[.int .u8 1, .slice (some ⟨b, q, none⟩) n c] w fun e w' => e = .returned (.int .u16 (bev l p 2 : Nat)) ∧ ∃ k, w' = w.drewN k := by
  have h0 := h.2 0 (by omega)
  have h1 := h.2 1 (by omega)
  simp only [Nat.add_zero] at h0
  have e : bev l p 2 = (l[p]?.getD 0).toNat * 256 + (l[p + 1]?.getD 0).toNat := by
    rw [bev_succ l p 1 (by have := h.1; omega), bev_succ l p 0 (by have := h.1; omega), bev_zero]; simp
  have b0 := (l[p]?.getD 0).toNat_lt
  have b1 := (l[p + 1]?.getD 0).toNat_lt
  refine (u16_at b q n c _ _ w hn ⟨by omega, by omega⟩ ⟨by omega, by omega⟩ h0 h1).mono fun e' w' ⟨he, hw⟩ => ⟨?_, hw⟩
  rw [he, e]
  simp

set_option maxHeartbeats 400000 in
theorem u32_l (b q n c : Nat) (l : List UInt8) (p : Nat) (w : World) (hn : 4 ≤ n) (hc : n ≤ c) (h : Stand w b q l p 4) :
    Calls Tryd.prog 44 #[.int .u8 1, .slice (some ⟨b, q, none⟩) n c] w fun e w' => e = .returned (.int .u32 (bev l p 4 : Nat)) ∧ ∃ k, w' = w.drewN k := by
  have h3 := h.2 3 (by omega)
  have e : bev l p 4 = bev l p 2 * 65536 + bev l (p + 2) 2 := bev_join l p 2 2 h.1
  have e1 : ((bev l p 4 : Nat) : Int) = (bev l p 2 : Nat) * 65536 + (bev l (p + 2) 2 : Nat) := by rw [e]; simp
  have b1 : bev l p 2 < 65536 := bev_lt l p 2
  have b2 : bev l (p + 2) 2 < 65536 := bev_lt l (p + 2) 2
  have s1 := h.part 0 2 (by omega)
  have s2 := h.part 2 2 (by omega)
  simp only [Nat.add_zero] at s1
  have hr := or32 (bev l p 2 : Nat) (bev l (p + 2) 2 : Nat) ⟨by omega, by omega⟩ ⟨by omega, by omega⟩
  have K1 := Lib.hid (fun (m n' c' : Nat) (hn' : 2 ≤ n') => Calls.quiet_of (n := m) (u16_l b q n' c' l p (w.drewN m) hn' s1))
  have K2 := Lib.hid (fun (m n' c' : Nat) (hn' : 2 ≤ n') => Calls.quiet_of (n := m) (u16_l b (q + 2) n' c' l (p + 2) (w.drewN m) hn' s2))
  have HE := Lib.hid e1
  clear e e1 h s1 s2
  generalize bev l p 4 = r at HE ⊢
  generalize bev l p 2 = v1 at *
  generalize bev l (p + 2) 2 = v2 at *
  have hcne : ¬ c = 2 := by omega
  go_enter Tryd.func44, Tryd.ntmps44
  go_wp2
  go_quiet ((first
    | (go_at_call 52; with_reducible exact K1.out _ _ _ (by omega))
    | (go_at_call 52; with_reducible exact K2.out _ _ _ (by omega))))
  go_wp2
  go_ret
  exact ⟨by rw [HE.out]; simp, _, rfl⟩

set_option maxHeartbeats 400000 in
theorem u64_l (b q n c : Nat) (l : List UInt8) (p : Nat) (w : World) (hn : 8 ≤ n) (hc : n ≤ c) (h : Stand w b q l p 8) :
    Calls Tryd.prog 54 #[.int .u8 1, .slice (some ⟨b, q, none⟩) n c] w fun e w' => e = .returned (.int .u64 (bev l p 8 : Nat)) ∧ ∃ k, w' = w.drewN k := by
  have h3 := h.2 7 (by omega)
  have e : bev l p 8 = bev l p 4 * 4294967296 + bev l (p + 4) 4 := bev_join l p 4 4 h.1
  have e1 : ((bev l p 8 : Nat) : Int) = (bev l p 4 : Nat) * 4294967296 + (bev l (p + 4) 4 : Nat) := by rw [e]; simp
  have b1 : bev l p 4 < 4294967296 := bev_lt l p 4
  have b2 : bev l (p + 4) 4 < 4294967296 := bev_lt l (p + 4) 4
  have s1 := h.part 0 4 (by omega)
  have s2 := h.part 4 4 (by omega)
  simp only [Nat.add_zero] at s1
  have hr := or64 (bev l p 4 : Nat) (bev l (p + 4) 4 : Nat) ⟨by omega, by omega⟩ ⟨by omega, by omega⟩
  have K1 := Lib.hid (fun (m n' c' : Nat) (hn' : 4 ≤ n') (hc' : n' ≤ c') => Calls.quiet_of (n := m) (u32_l b q n' c' l p (w.drewN m) hn' hc' s1))
  have K2 := Lib.hid (fun (m n' c' : Nat) (hn' : 4 ≤ n') (hc' : n' ≤ c') => Calls.quiet_of (n := m) (u32_l b (q + 4) n' c' l (p + 4) (w.drewN m) hn' hc' s2))
  have HE := Lib.hid e1
  clear e e1 h s1 s2
  generalize bev l p 8 = r at HE ⊢
  generalize bev l p 4 = v1 at *
  generalize bev l (p + 4) 4 = v2 at *
  have hcne : ¬ c = 4 := by omega
  go_enter Tryd.func54, Tryd.ntmps54
  go_wp2
  go_quiet ((first
    | (go_at_call 44; with_reducible exact K1.out _ _ _ (by omega) (by omega))
    | (go_at_call 44; with_reducible exact K2.out _ _ _ (by omega) (by omega))))
  go_wp2
  go_ret
  exact ⟨by rw [HE.out]; simp, _, rfl⟩
end Go.Proofs.YtpdjolkbjcdimaaDoor
