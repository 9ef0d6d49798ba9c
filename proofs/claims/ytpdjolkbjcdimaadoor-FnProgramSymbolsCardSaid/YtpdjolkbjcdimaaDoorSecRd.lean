/- io.SectionReader over a bytes.Reader, where there are bytes enough: Read, ReadAt, Size; io.ReadFull. -/
import Derived.Test.YtpdjolkbjcdimaaDoorRdAt
import Derived.LoopN
import Derived.Deep.RegionWith
namespace Go.Proofs.YtpdjolkbjcdimaaDoor
open Go.RowKit

theorem nilAhead_readAt (n : Nat) (a : Addr) (w : World) : (nilAhead (n + 1) 95 (.pointer (some a)) "ReadAt").run Tryd.prog w = .ok (some false) w := by kernel_rfl
theorem method_readAt (n : Nat) (a : Addr) (w : World) : (method (n + 1) 95 (.pointer (some a)) "ReadAt").run Tryd.prog w = .ok (76, .pointer (some a)) w := by kernel_rfl
theorem nilAhead_sread (n : Nat) (a : Addr) (w : World) : (nilAhead (n + 1) 75 (.pointer (some a)) "Read").run Tryd.prog w = .ok (some false) w := by kernel_rfl
theorem method_sread (n : Nat) (a : Addr) (w : World) : (method (n + 1) 75 (.pointer (some a)) "Read").run Tryd.prog w = .ok (71, .pointer (some a)) w := by kernel_rfl
theorem nilAhead_sreadAt (n : Nat) (a : Addr) (w : World) : (nilAhead (n + 1) 75 (.pointer (some a)) "ReadAt").run Tryd.prog w = .ok (some false) w := by kernel_rfl
theorem method_sreadAt (n : Nat) (a : Addr) (w : World) : (method (n + 1) 75 (.pointer (some a)) "ReadAt").run Tryd.prog w = .ok (72, .pointer (some a)) w := by kernel_rfl

/-- The cells of a SectionReader over the bytes.Reader at gr. -/
def srCells (gr base off : Nat) (lim n : Int) : Array Value := #[.iface 95 (.pointer (some ⟨gr, 0, none⟩)), .int .i64 (base : Nat), .int .i64 (off : Nat), .int .i64 lim, .int .i64 n]

set_option maxRecDepth 100000 in
set_option maxHeartbeats 800000 in
theorem srRead_all (gs gr gb base off m cm c tb : Nat) (lim n : Int) (x y : Value) (A : Option Addr) (l : List UInt8) (cur : Array Value) (w : World)
    (hs : Blk w gs 140 (srCells gr base off lim n)) (hr : Blk w gr 112 #[.slice A l.length c, x, y]) (hb : Bs w A l) (hg : Blk w gb tb cur)
    (hne : gs ≠ gb) (hi : off + m ≤ l.length) (h0 : 0 < m) (hc : l.length ≤ c) (hfit : m = cur.size) (hl1 : (off : Int) + (m : Int) ≤ lim) (hl2 : lim ≤ 9223372036854775807) :
    Calls Tryd.prog 71 #[.pointer (some ⟨gs, 0, none⟩), .slice (some ⟨gb, 0, none⟩) m cm] w fun e w' =>
      e = .returned (.tuple #[.int .i64 (m : Nat), .nilIface]) ∧ Blk w' gb tb (bvs ((l.drop off).take m)).toArray ∧ Blk w' gs 140 (srCells gr base (off + m) lim n) ∧ Keeps (fun j => j = gb ∨ j = gs) w w' := by
  have c0 := hs.cell 0
  have c2 := hs.cell 2
  have c3 := hs.cell 3
  have f2 := hs.frozen 2
  simp only [srCells, List.getElem?_toArray, List.getElem?_cons_zero, List.getElem?_cons_succ] at c0 c2 c3
  have hlt : ¬ lim ≤ (off : Int) := by omega
  have hlt2 : ¬ lim - (off : Int) < (m : Int) := by omega
  have hl3 : (0 : Int) ≤ lim := by omega
  have hna := nilAhead_readAt
  have hme := method_readAt
  have HF := Lib.hid hfit
  clear hfit
  go_enter Tryd.func71, Tryd.ntmps71
  go_wp2_with fail
  go_quiet (fail)
  go_wp2_with fail
  go_quiet (fail)
  go_wp2_with fail
  go_region_with (go_at_call 76; refine (rdAt_all gr gb m cm off c tb x y A l cur _ ?_ ?_ ?_ hi h0 hc HF.out).mono ?_; exact hr; exact hb; exact hg; rintro e w1 ⟨rfl, hg1, hK1⟩)
  all_goals
    have hs1 : Blk w1 gs 140 (srCells gr base off lim n) := (hs.drewN _).keeps hK1 (fun h => hne h)
    have hK2 : Keeps (fun j => j = gb ∨ j = gs) w w1 := (Keeps.refl _ w).drewN _ |>.trans (hK1.mono (fun i h => .inl h))
    have d2 := hs1.cell 2
    have g2 := hs1.frozen 2
    simp only [srCells, List.getElem?_toArray, List.getElem?_cons_zero, List.getElem?_cons_succ] at d2
    have hsum : (off : Int) + (m : Int) ≤ 9223372036854775807 := by omega
    clear c0 c2 c3 f2 hs hr hb hg hna hme
    go_wp2_with fail
    go_ret2
    have hs3 := hs1.set_ 2 (.int .i64 ((off + m : Nat) : Int))
    simp only [srCells, List.setIfInBounds_toArray, List.set_cons_succ, List.set_cons_zero] at hs3
    exact ⟨by simp, hg1.far (p := ⟨gs, 2, none⟩) (fun e => hne e.symm) _, hs3, hK2.setCell (fun _ => .inr rfl) _⟩

set_option maxRecDepth 100000 in
set_option maxHeartbeats 400000 in
theorem srAtLeast_all (gs gr gb base off N c tb : Nat) (lim n : Int) (x y : Value) (A : Option Addr) (l : List UInt8) (cur : Array Value) (w : World)
    (hs : Blk w gs 140 (srCells gr base off lim n)) (hr : Blk w gr 112 #[.slice A l.length c, x, y]) (hb : Bs w A l) (hg : Blk w gb tb cur)
    (hne : gs ≠ gb) (hi : off + N ≤ l.length) (hN : 0 < N) (hc : l.length ≤ c) (hfit : N = cur.size) (hl1 : (off : Int) + (N : Int) ≤ lim) (hl2 : lim ≤ 9223372036854775807) :
    Calls Tryd.prog 53 #[.iface 75 (.pointer (some ⟨gs, 0, none⟩)), .slice (some ⟨gb, 0, none⟩) N N, .int .i64 (N : Nat)] w fun e w' =>
      e = .returned (.tuple #[.int .i64 (N : Nat), .nilIface]) ∧ Blk w' gb tb (bvs ((l.drop off).take N)).toArray ∧ Blk w' gs 140 (srCells gr base (off + N) lim n) ∧ Keeps (fun j => j = gb ∨ j = gs) w w' := by
  have HF := Lib.hid hfit
  clear hfit
  go_enter Tryd.func53, Tryd.ntmps53
  go_wp2_with fail
  refine wp_loop_rounds 2 ?_
  rw [rounds_succ]
  go_wp2_with fail
  have hna := nilAhead_sread
  have hme := method_sread
  go_region_with (go_at_call 71; refine (srRead_all gs gr gb base off N N c tb lim n x y A l cur _ ?_ ?_ ?_ ?_ hne hi hN hc HF.out hl1 hl2).mono ?_; exact hs; exact hr; exact hb; exact hg; rintro e w1 ⟨rfl, hg1, hs1, hK1⟩)
  all_goals
    clear hs hr hb hg
    go_wp2_with fail
    rw [rounds_succ]
    go_wp2_with fail
  go_ret2
  exact ⟨by simp, hg1, hs1, ((Keeps.refl _ w).drew).trans hK1⟩

theorem srFull_all (gs gr gb base off N c tb : Nat) (lim n : Int) (x y : Value) (A : Option Addr) (l : List UInt8) (cur : Array Value) (w : World)
    (hs : Blk w gs 140 (srCells gr base off lim n)) (hr : Blk w gr 112 #[.slice A l.length c, x, y]) (hb : Bs w A l) (hg : Blk w gb tb cur)
    (hne : gs ≠ gb) (hi : off + N ≤ l.length) (hN : 0 < N) (hc : l.length ≤ c) (hfit : N = cur.size) (hl1 : (off : Int) + (N : Int) ≤ lim) (hl2 : lim ≤ 9223372036854775807) :
    Calls Tryd.prog 43 #[.iface 75 (.pointer (some ⟨gs, 0, none⟩)), .slice (some ⟨gb, 0, none⟩) N N] w fun e w' =>
      e = .returned (.tuple #[.int .i64 (N : Nat), .nilIface]) ∧ Blk w' gb tb (bvs ((l.drop off).take N)).toArray ∧ Blk w' gs 140 (srCells gr base (off + N) lim n) ∧ Keeps (fun j => j = gb ∨ j = gs) w w' := by
  have HC := Lib.hid (srAtLeast_all gs gr gb base off N c tb lim n x y A l cur w hs hr hb hg hne hi hN hc hfit hl1 hl2)
  clear hs hr hb hg hfit
  go_enter Tryd.func43, Tryd.ntmps43
  go_wp2_with fail
  refine HC.out.mono ?_
  rintro e w1 ⟨rfl, h1, h2, h3⟩
  go_wp2_with fail
  go_ret2
  exact ⟨by simp, h1, h2, h3⟩
end Go.Proofs.YtpdjolkbjcdimaaDoor
