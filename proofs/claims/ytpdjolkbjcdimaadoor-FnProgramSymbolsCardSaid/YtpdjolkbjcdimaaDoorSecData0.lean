/- (*Section).Data as SecData has it, and that its block is there, of no bytes too. -/
import Derived.Test.YtpdjolkbjcdimaaDoorSecData
namespace Go.Proofs.YtpdjolkbjcdimaaDoor
open Go.RowKit

set_option maxRecDepth 100000 in
set_option maxHeartbeats 800000 in
theorem readData_none0 (gs gr base off : Nat) (n : Int) (w : World) (hE : Eofs w)
    (hs : Blk w gs 140 (srCells gr base off ((0 : Int) + (base : Int)) n)) (hl2 : (base : Int) ≤ 9223372036854775807) :
    Calls Tryd.prog 38 #[.iface 75 (.pointer (some ⟨gs, 0, none⟩)), .int .u64 0, .int .i64 0] w fun e w' =>
      e = .returned (.tuple #[.slice (some ⟨w.heap.size, 0, none⟩) 0 0, .nilIface]) ∧ w.heap.size < w'.heap.size ∧ Below w.heap.size w w' := by
  obtain ⟨cur, _, hmk'⟩ := make_bytes 0 (by omega)
  have hmk : ∀ w : World, (Instr.makeSlice 22 (.int .u64 0) (.int .u64 0)).run Tryd.prog w = .ok (.slice (some ⟨w.heap.size, 0, none⟩) 0 0) (w.alloc (.cells cur 5)) := hmk'
  clear hmk'
  have hna := nilAhead_sreadAt
  have hme := method_sreadAt
  have q1 : IntKind.i64.wrap 0 = 0 := IntWalk.i64_in _ (by omega)
  have q2 : IntKind.u64.wrap 0 = 0 := IntWalk.u64_in _ (by omega)
  have hnq := ne_eof
  have hE1 := hE.below ((Below.refl _ _).alloc (Nat.le_refl _) (.cells cur 5))
  obtain ⟨ae, hae⟩ := hE1.eof
  have HH := Lib.hid hs
  clear hs
  go_enter Tryd.func38, Tryd.ntmps38
  go_wp2_with fail
  refine (srReadAt_none gs gr base off n _ _ _ (HH.out.alloc _) hl2 hae).mono ?_
  rintro e w1 ⟨rfl, q, rfl⟩
  go_wp2_with fail
  go_ret2
  exact ⟨by simp, (by show w.heap.size < (w.alloc _).heap.size; simp), (Keeps.refl (fun _ => False) w).alloc _ |>.drewN q |>.below (Nat.le_refl _) (fun _ h => h.elim)⟩

theorem readData_any0 (gs gr base off m c : Nat) (n : Int) (x y : Value) (A : Option Addr) (l : List UInt8) (w : World) (hE : Eofs w)
    (hs : Blk w gs 140 (srCells gr base off ((m : Int) + (base : Int)) n)) (hr : Blk w gr 112 #[.slice A l.length c, x, y]) (hb : Bs w A l)
    (hi : base + m ≤ l.length) (hm : m ≤ 1000000) (hc : l.length ≤ c) (hl2 : (m : Int) + (base : Int) ≤ 9223372036854775807) :
    Calls Tryd.prog 38 #[.iface 75 (.pointer (some ⟨gs, 0, none⟩)), .int .u64 (m : Nat), .int .i64 0] w fun e w' =>
      ∃ g : Nat, w.heap.size ≤ g ∧ g < w'.heap.size ∧ e = .returned (.tuple #[.slice (some ⟨g, 0, none⟩) m m, .nilIface]) ∧ Bs w' (some ⟨g, 0, none⟩) ((l.drop base).take m) ∧ Below w.heap.size w w' := by
  rcases Nat.eq_zero_or_pos m with rfl | h0
  · exact (readData_none0 gs gr base off n w hE hs (by omega)).mono fun e w' ⟨h1, h2, h3⟩ => ⟨_, Nat.le_refl _, h2, h1, by rw [List.take_zero]; exact Bs.nil _ _, h3⟩
  · refine (readData_all gs gr base off m c n x y A l w hs hr hb hi h0 hm hc hl2).mono fun e w' ⟨h1, h2, h3⟩ => ⟨_, Nat.le_refl _, ?_, h1, h2, h3⟩
    obtain ⟨b, o, he, hlt, _⟩ := h2.at_ (k := 0) (by rw [List.length_take, List.length_drop]; omega)
    injection he with he
    injection he with he
    omega

set_option maxRecDepth 100000 in
set_option maxHeartbeats 800000 in
theorem secData_at (nm : ByteArray) (gx gs gr base off m c : Nat) (n : Int) (x y : Value) (A : Option Addr) (l : List UInt8) (w : World) (hE : Eofs w)
    (hx : Blk w gx 77 (secCells nm m base gs))
    (hs : Blk w gs 140 (srCells gr base off ((m : Int) + (base : Int)) n)) (hr : Blk w gr 112 #[.slice A l.length c, x, y]) (hb : Bs w A l)
    (hi : base + m ≤ l.length) (hm : m ≤ 1000000) (hc : l.length ≤ c) (hl2 : (m : Int) + (base : Int) ≤ 9223372036854775807) :
    Calls Tryd.prog 27 #[.pointer (some ⟨gx, 0, none⟩)] w fun e w' =>
      ∃ g : Nat, w.heap.size ≤ g ∧ g < w'.heap.size ∧ e = .returned (.tuple #[.slice (some ⟨g, 0, none⟩) m m, .nilIface]) ∧ Bs w' (some ⟨g, 0, none⟩) ((l.drop base).take m) ∧ Below w.heap.size w w' := by
  have c1 := hx.cell 1
  have c4 := hx.cell 4
  simp only [secCells, List.getElem?_toArray, List.getElem?_cons_zero, List.getElem?_cons_succ] at c1 c4
  have q2 : IntKind.u64.wrap (m : Int) = (m : Int) := IntWalk.u64_in _ (by omega)
  have HR := Lib.hid (fun W k1 k2 k3 k4 => readData_any0 gs gr base off m c n x y A l W k1 k2 k3 k4 hi hm hc hl2)
  clear hx
  go_enter Tryd.func27, Tryd.ntmps27
  go_wp2_with fail
  go_region_with (go_at_call 38; refine (HR.out _ ?_ ?_ ?_ ?_).mono ?_; exact hE.drew; exact hs; exact hr; exact hb; rintro e w1 ⟨g, hgz, hgl, rfl, hg1, hK1⟩)
  all_goals
    clear hs hr hb HR hE
    go_wp2_with fail
    go_ret2
    exact ⟨g, hgz, hgl, by simp [Act.put], hg1, ((Keeps.refl (fun _ => False) w).drew.below (Nat.le_refl _) (fun _ h => h.elim)).trans hK1⟩
end Go.Proofs.YtpdjolkbjcdimaaDoor
