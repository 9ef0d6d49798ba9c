/- (*Section).Data, where the section's bytes are there. -/
import Derived.Test.YtpdjolkbjcdimaaDoorSecAt
namespace Go.Proofs.YtpdjolkbjcdimaaDoor
open Go.RowKit

theorem readData_any (gs gr base off m c : Nat) (n : Int) (x y : Value) (A : Option Addr) (l : List UInt8) (w : World) (hE : Eofs w)
    (hs : Blk w gs 140 (srCells gr base off ((m : Int) + (base : Int)) n)) (hr : Blk w gr 112 #[.slice A l.length c, x, y]) (hb : Bs w A l)
    (hi : base + m ≤ l.length) (hm : m ≤ 1000000) (hc : l.length ≤ c) (hl2 : (m : Int) + (base : Int) ≤ 9223372036854775807) :
    Calls Tryd.prog 38 #[.iface 75 (.pointer (some ⟨gs, 0, none⟩)), .int .u64 (m : Nat), .int .i64 0] w fun e w' =>
      ∃ g : Nat, w.heap.size ≤ g ∧ e = .returned (.tuple #[.slice (some ⟨g, 0, none⟩) m m, .nilIface]) ∧ Bs w' (some ⟨g, 0, none⟩) ((l.drop base).take m) ∧ Below w.heap.size w w' := by
  rcases Nat.eq_zero_or_pos m with rfl | h0
  · exact (readData_none gs gr base off n w hE hs (by omega)).mono fun e w' ⟨h1, h2⟩ => ⟨_, Nat.le_refl _, h1, by rw [List.take_zero]; exact Bs.nil _ _, h2⟩
  · exact (readData_all gs gr base off m c n x y A l w hs hr hb hi h0 hm hc hl2).mono fun e w' ⟨h1, h2, h3⟩ => ⟨_, Nat.le_refl _, h1, h2, h3⟩

/-- The cells of a Section whose reader is at gs. -/
def secCells (nm : ByteArray) (m base gs : Nat) : Array Value := #[.string nm, .int .u32 (m : Nat), .int .u32 (base : Nat), .iface 75 (.pointer (some ⟨gs, 0, none⟩)), .pointer (some ⟨gs, 0, none⟩)]

set_option maxRecDepth 100000 in
set_option maxHeartbeats 800000 in
theorem secData_any (nm : ByteArray) (gx gs gr base off m c : Nat) (n : Int) (x y : Value) (A : Option Addr) (l : List UInt8) (w : World) (hE : Eofs w)
    (hx : Blk w gx 77 (secCells nm m base gs))
    (hs : Blk w gs 140 (srCells gr base off ((m : Int) + (base : Int)) n)) (hr : Blk w gr 112 #[.slice A l.length c, x, y]) (hb : Bs w A l)
    (hi : base + m ≤ l.length) (hm : m ≤ 1000000) (hc : l.length ≤ c) (hl2 : (m : Int) + (base : Int) ≤ 9223372036854775807) :
    Calls Tryd.prog 27 #[.pointer (some ⟨gx, 0, none⟩)] w fun e w' =>
      ∃ g : Nat, w.heap.size ≤ g ∧ e = .returned (.tuple #[.slice (some ⟨g, 0, none⟩) m m, .nilIface]) ∧ Bs w' (some ⟨g, 0, none⟩) ((l.drop base).take m) ∧ Below w.heap.size w w' := by
  have c1 := hx.cell 1
  have c4 := hx.cell 4
  simp only [secCells, List.getElem?_toArray, List.getElem?_cons_zero, List.getElem?_cons_succ] at c1 c4
  have q2 : IntKind.u64.wrap (m : Int) = (m : Int) := IntWalk.u64_in _ (by omega)
  have HR := Lib.hid (fun W k1 k2 k3 k4 => readData_any gs gr base off m c n x y A l W k1 k2 k3 k4 hi hm hc hl2)
  clear hx
  go_enter Tryd.func27, Tryd.ntmps27
  go_wp2_with fail
  go_region_with (go_at_call 38; refine (HR.out _ ?_ ?_ ?_ ?_).mono ?_; exact hE.drew; exact hs; exact hr; exact hb; rintro e w1 ⟨g, hgz, rfl, hg1, hK1⟩)
  all_goals
    clear hs hr hb HR hE
    go_wp2_with fail
    go_ret2
    exact ⟨g, hgz, by simp [Act.put], hg1, ((Keeps.refl (fun _ => False) w).drew.below (Nat.le_refl _) (fun _ h => h.elim)).trans hK1⟩
end Go.Proofs.YtpdjolkbjcdimaaDoor
