/- The reference's joined: pieces, one behind the other. -/
import Derived.Test.YtpdjolkbjcdimaaDoorChecked
import Derived.Test.YtpdjolkbjcdimaaDoorMem
import Derived.WalkSpells
import Derived.Lib.Hide
namespace Go.Proofs.YtpdjolkbjcdimaaDoor
open Go.RowKit

/-- A piece: where it stands, its bytes, its capacity. -/
structure Piece where
  A : Option Addr
  l : List UInt8
  c : Nat
def Piece.val (p : Piece) : Value := .slice p.A p.l.length p.c
def flat (ps : List Piece) : List UInt8 := ps.flatMap (·.l)
theorem flat_take (ps : List Piece) (k : Nat) (h : k < ps.length) : flat (ps.take (k + 1)) = flat (ps.take k) ++ ps[k].l := by
  unfold flat
  rw [List.take_succ_eq_append_getElem h]
  simp only [List.flatMap_append, List.flatMap_cons, List.flatMap_nil, List.append_nil]
theorem flat_le (ps : List Piece) (k : Nat) : (flat (ps.take k)).length ≤ (flat ps).length := by
  have h : flat ps = flat (ps.take k) ++ flat (ps.drop k) := by
    unfold flat
    rw [← List.flatMap_append, List.take_append_drop]
  rw [h, List.length_append]
  omega
theorem info_u8j : (Tryd.prog.info? 5).map (fun i => (i.zero, i.size, i.bytes)) = some (some (.int .u8 0), 1, 1) := by kernel_rfl

set_option maxHeartbeats 800000 in
theorem joined_any (b o cap : Nat) (ps : List Piece) (n : Nat) (w : World) (hn : ps.length = n) (hb : b < w.heap.size) (hp : ∀ (i : Nat) (p : Piece), ps[i]? = some p → w.cell? ⟨b, o + i, none⟩ = some p.val) (hB : ∀ p ∈ ps, Bs w p.A p.l)
    (hlen : ps.length ≤ 1000) (hl : (flat ps).length ≤ 1099511627776) :
    Calls Tryd.prog 28 #[.slice (some ⟨b, o, none⟩) n cap] w fun e w' => ∃ A N c, e = .returned (.slice A N c) ∧ w'.ownsRow w.heap.size 5 1 (.slice A N c) N (bvs (flat ps)) ∧ Below w.heap.size w w' := by
  subst hn
  obtain ⟨i0, hi, hz0, hz1, hz2⟩ := info_parts info_u8j
  go_enter Tryd.func28, Tryd.ntmps28
  go_wp2_with fail
  go_loopw [3, 4] (fun out i wr => ∃ (k N : Nat) (A : Option Addr) (c : Nat), k ≤ ps.length ∧ i = .int .i64 k ∧ out = .slice A N c ∧ wr.ownsRow w.heap.size 5 1 (.slice A N c) N (bvs (flat (ps.take k))) ∧ Below w.heap.size w wr) (fun _ i _ => ps.length - (intOf i).toNat)
  case atStart =>
    refine ⟨0, 0, _, 0, Nat.zero_le _, rfl, rfl, ?_, (Below.refl _ _).alloc (Nat.le_refl _) _⟩
    exact ⟨by simp [bvs, flat], .inr ⟨w.heap.size, 0, #[], rfl, Nat.le_refl _, heap_alloc_new w _, Nat.le_refl _, by simp [maxLen], by simp, by simp [bvs, flat]⟩⟩
  case round =>
    obtain ⟨k, N, A, c, hk, rfl, rfl, hown, hbel⟩ := hrel
    by_cases hlt : k < ps.length
    · have hck := (hbel.cell (p := ⟨b, o + k, none⟩) hb).trans (hp k ps[k] (List.getElem?_eq_getElem hlt))
      have hBk := (hB ps[k] (List.getElem_mem _)).keep hbel.size (fun b _ _ hlt => hbel.block b hlt)
      have hN : N = (flat (ps.take k)).length := by have := hown.1; rw [bvs_length] at this; omega
      have h1 := flat_le ps (k + 1)
      have hft := flat_take ps k hlt
      rw [hft, List.length_append] at h1
      generalize ps[k] = p at hck hBk hft h1
      have HF := Lib.hid hft
      have hbd : N + p.l.length ≤ 1099511627776 := by omega
      have HN := Lib.hid hN
      unfold Piece.val at hck
      clear hft h1 hN hl hp hB
      go_wp2_with (at_builtin; refine wpList_append_src rfl _ _ 22 rfl w.heap.size 5 i0 (.int .u8 0) 1 Tryd.underlying22 hi hz0 hz1 hz2 rfl (.slice A N c) N _ rfl hown p.A p.l.length p.c (bvs p.l) rfl (bvs_length _) hBk.none_ hBk.cells_ (bvs_one _) (by simp only [maxLen]; omega) (by omega) hbel.size ?_; intro v' w3 hown3 hg3 _)
      have hbel3 : Below w.heap.size w w3 := hbel.grown hg3 hbel.size (own_base hown)
      obtain ⟨A3, c3, rfl⟩ := own_form hown3
      have hfin : w3.ownsRow w.heap.size 5 1 (.slice A3 (N + p.l.length) c3) (N + p.l.length) (bvs (flat (ps.take (k + 1)))) := by
        rw [HF.out]
        have : bvs (flat (ps.take k) ++ p.l) = bvs (flat (ps.take k)) ++ bvs p.l := by simp [bvs]
        rw [this]
        exact hown3
      clear hown3 hown hbel hBk
      go_wp2_with fail
      go_roundw
      case rel => exact ⟨k + 1, _, A3, c3, by omega, by go_num, rfl, hfin, hbel3⟩
      case measure => simp [intOf]; omega
    · obtain rfl : k = ps.length := by omega
      have HF := Lib.hid (show ps.take ps.length = ps from List.take_length)
      clear hp hB
      go_wp2_with fail
      go_ret
      exact ⟨A, N, c, by simp, by rw [HF.out] at hown; exact hown, hbel⟩
end Go.Proofs.YtpdjolkbjcdimaaDoor
