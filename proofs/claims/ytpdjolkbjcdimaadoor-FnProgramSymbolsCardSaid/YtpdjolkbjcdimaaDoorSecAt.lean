/- (*io.SectionReader).Size and ReadAt, where the section's bytes are there; readDataAt. -/
import Derived.Test.YtpdjolkbjcdimaaDoorSecRd
import Derived.Test.YtpdjolkbjcdimaaDoorCopied
import Derived.Test.YtpdjolkbjcdimaaDoorWindow
import Derived.Laws.MakeOwn
namespace Go.Proofs.YtpdjolkbjcdimaaDoor
open Go.RowKit

theorem srSize (gs gr base off : Nat) (lim n : Int) (w : World) (hs : Blk w gs 140 (srCells gr base off lim n)) (h1 : (base : Int) ≤ lim) (h2 : lim ≤ 9223372036854775807) :
    Calls Tryd.prog 73 #[.pointer (some ⟨gs, 0, none⟩)] w fun e w' => e = .returned (.int .i64 (lim - (base : Int))) ∧ ∃ k, w' = w.drewN k := by
  have c1 := hs.cell 1
  have c3 := hs.cell 3
  simp only [srCells, List.getElem?_toArray, List.getElem?_cons_zero, List.getElem?_cons_succ] at c1 c3
  go_enter Tryd.func73, Tryd.ntmps73
  go_wp2_with fail
  go_quiet (fail)
  go_wp2_with fail
  go_ret
  exact ⟨by simp, _, rfl⟩

set_option maxRecDepth 100000 in
set_option maxHeartbeats 800000 in
theorem srReadAt_all (gs gr gb base off m c tb : Nat) (n : Int) (x y : Value) (A : Option Addr) (l : List UInt8) (cur : Array Value) (w : World)
    (hs : Blk w gs 140 (srCells gr base off ((m : Int) + (base : Int)) n)) (hr : Blk w gr 112 #[.slice A l.length c, x, y]) (hb : Bs w A l) (hg : Blk w gb tb cur)
    (hi : base + m ≤ l.length) (h0 : 0 < m) (hc : l.length ≤ c) (hfit : m = cur.size) (hl2 : (m : Int) + (base : Int) ≤ 9223372036854775807) :
    Calls Tryd.prog 72 #[.pointer (some ⟨gs, 0, none⟩), .slice (some ⟨gb, 0, none⟩) m m, .int .i64 0] w fun e w' =>
      e = .returned (.tuple #[.int .i64 (m : Nat), .nilIface]) ∧ Blk w' gb tb (bvs ((l.drop base).take m)).toArray ∧ Keeps (fun j => j = gb) w w' := by
  have c0 := hs.cell 0
  have c1 := hs.cell 1
  have c3 := hs.cell 3
  simp only [srCells, List.getElem?_toArray, List.getElem?_cons_zero, List.getElem?_cons_succ] at c0 c1 c3
  have hna := nilAhead_readAt
  have hme := method_readAt
  have HF := Lib.hid hfit
  have HS := Lib.hid (srSize gs gr base off _ n w hs (by omega) hl2)
  have he1 : (m : Int) + (base : Int) - (base : Int) = (m : Int) := by omega
  rw [he1] at HS
  have hm1 : ¬ (m : Int) ≤ 0 := by omega
  clear hfit hs
  go_enter Tryd.func72, Tryd.ntmps72
  go_wp2_with fail
  refine HS.out.mono ?_
  rintro e w1 ⟨rfl, q, rfl⟩
  clear HS
  go_wp2_with fail
  refine (rdAt_all gr gb m m base c tb x y A l cur _ ?_ ?_ ?_ hi h0 hc HF.out).mono ?_
  · exact hr
  · exact hb
  · exact hg
  rintro e w2 ⟨rfl, hg1, hK1⟩
  clear hr hb hg
  go_wp2_with fail
  go_ret2
  exact ⟨by simp, hg1, ((Keeps.refl _ w).drewN q).trans hK1⟩

set_option maxRecDepth 100000 in
set_option maxHeartbeats 800000 in
theorem srReadAt_none (gs gr base off : Nat) (n : Int) (buf eof : Value) (w : World) (hs : Blk w gs 140 (srCells gr base off ((0 : Int) + (base : Int)) n))
    (hl2 : (base : Int) ≤ 9223372036854775807) (hE : w.cell? ⟨2, 0, none⟩ = some eof) :
    Calls Tryd.prog 72 #[.pointer (some ⟨gs, 0, none⟩), buf, .int .i64 0] w fun e w' =>
      e = .returned (.tuple #[.int .i64 0, eof]) ∧ ∃ k, w' = w.drewN k := by
  have HS := Lib.hid (srSize gs gr base off _ n w hs (by omega) (by omega))
  have he1 : (0 : Int) + (base : Int) - (base : Int) = 0 := by omega
  rw [he1] at HS
  clear hs
  go_enter Tryd.func72, Tryd.ntmps72
  go_wp2_with fail
  refine HS.out.mono ?_
  rintro e w1 ⟨rfl, q, rfl⟩
  clear HS
  go_wp2_with fail
  go_quiet (fail)
  go_wp2_with fail
  go_ret2
  exact ⟨by simp, _, World.drewN_drewN _ _ _⟩

theorem make_bytes (m : Nat) (hm : m ≤ 1000000) : ∃ cur : Array Value, cur.size = m ∧ ∀ w : World, (Instr.makeSlice 22 (.int .u64 (m : Nat)) (.int .u64 (m : Nat))).run Tryd.prog w = .ok (.slice (some ⟨w.heap.size, 0, none⟩) m m) (w.alloc (.cells cur 5)) := by
  obtain ⟨i0, hi, hz0, hz1, hz2⟩ := info_parts info_u8
  refine ⟨madeCells (Value.int .u8 0).cells (m * i0.size), by rw [size_madeCells, hz1]; omega, fun w => ?_⟩
  have h := run_makeSlice (P := Tryd.prog) w 22 5 i0 (.int .u8 0) Tryd.underlying22 hi hz0 .u64 .u64 m m (by omega) (Int.le_refl _) (by rw [hz1]; simp; omega) (by rw [hz2]; omega) (by omega)
  simpa using h

set_option maxRecDepth 100000 in
set_option maxHeartbeats 800000 in
theorem readData_all (gs gr base off m c : Nat) (n : Int) (x y : Value) (A : Option Addr) (l : List UInt8) (w : World)
    (hs : Blk w gs 140 (srCells gr base off ((m : Int) + (base : Int)) n)) (hr : Blk w gr 112 #[.slice A l.length c, x, y]) (hb : Bs w A l)
    (hi : base + m ≤ l.length) (h0 : 0 < m) (hm : m ≤ 1000000) (hc : l.length ≤ c) (hl2 : (m : Int) + (base : Int) ≤ 9223372036854775807) :
    Calls Tryd.prog 38 #[.iface 75 (.pointer (some ⟨gs, 0, none⟩)), .int .u64 (m : Nat), .int .i64 0] w fun e w' =>
      e = .returned (.tuple #[.slice (some ⟨w.heap.size, 0, none⟩) m m, .nilIface]) ∧ Bs w' (some ⟨w.heap.size, 0, none⟩) ((l.drop base).take m) ∧ Below w.heap.size w w' := by
  obtain ⟨cur, hcur, hmk⟩ := make_bytes m hm
  have hna := nilAhead_sreadAt
  have hme := method_sreadAt
  have q1 : IntKind.i64.wrap (m : Int) = (m : Int) := IntWalk.i64_in _ (by omega)
  have q2 : IntKind.u64.wrap (m : Int) = (m : Int) := IntWalk.u64_in _ (by omega)
  have q3 : ¬ (m : Int) < 0 := by omega
  have q4 : (m : Int) < 10485760 := by omega
  have q5 : (m : Int) ≤ 9223372036854775807 := by omega
  have HH := Lib.hid (show _ ∧ _ ∧ _ from ⟨hs, hr, hb⟩)
  have HC := Lib.hid hcur
  clear hs hr hb hcur
  go_enter Tryd.func38, Tryd.ntmps38
  go_wp2_with fail
  refine (srReadAt_all gs gr w.heap.size base off m c 5 n x y A l cur _ (HH.out.1.alloc _) (HH.out.2.1.alloc _) (HH.out.2.2.alloc _) (Blk.new _ _ _) hi h0 hc HC.out.symm hl2).mono ?_
  rintro e w1 ⟨rfl, hg1, hK1⟩
  have HG := Lib.hid (show _ ∧ _ from ⟨Blk.bs hg1, hK1⟩)
  clear hg1 hK1
  go_wp2_with fail
  go_ret2
  exact ⟨by simp, HG.out.1, (((Keeps.refl (fun _ => False) w).alloc _).step HG.out.2 (fun i hi e => by have : i = w.heap.size := e; omega)).below (Nat.le_refl _) (fun _ h => h.elim)⟩

theorem ne_eof (w : World) (a : Addr) : (binOp .neq 54 (.iface 122 (.pointer (some a))) (.iface 122 (.pointer (some a)))).run Tryd.prog w = .ok (.bool false) w := by
  have h1 : (Tryd.prog.info? 122).map (fun i => i.comparable) = some true := by kernel_rfl
  have h2 : (Tryd.prog.info? 124).map (fun i => i.comparable) = some true := by kernel_rfl
  cases q1 : Tryd.prog.info? 122 with
  | none => rw [q1] at h1; cases h1
  | some i =>
    cases q2 : Tryd.prog.info? 124 with
    | none => rw [q2] at h2; cases h2
    | some j =>
      rw [q1] at h1
      simp only [binOp]
      simp [Op.equal, Op.maxDepth, run_equalIn_iface_ptr_same (P := Tryd.prog) w 9998 a Tryd.underlying54 Tryd.underlying122 q1 (by simpa using h1) q2]

set_option maxRecDepth 100000 in
set_option maxHeartbeats 800000 in
theorem readData_none (gs gr base off : Nat) (n : Int) (w : World) (hE : Eofs w)
    (hs : Blk w gs 140 (srCells gr base off ((0 : Int) + (base : Int)) n)) (hl2 : (base : Int) ≤ 9223372036854775807) :
    Calls Tryd.prog 38 #[.iface 75 (.pointer (some ⟨gs, 0, none⟩)), .int .u64 0, .int .i64 0] w fun e w' =>
      e = .returned (.tuple #[.slice (some ⟨w.heap.size, 0, none⟩) 0 0, .nilIface]) ∧ Below w.heap.size w w' := by
  obtain ⟨cur, _, hmk'⟩ := make_bytes 0 (by omega)
  have hmk : ∀ w : World, (Instr.makeSlice 22 (.int .u64 0) (.int .u64 0)).run Tryd.prog w = .ok (.slice (some ⟨w.heap.size, 0, none⟩) 0 0) (w.alloc (.cells cur 5)) := hmk'
  clear hmk'
  have hna := nilAhead_sreadAt
  have hme := method_sreadAt
  have q1 : IntKind.i64.wrap 0 = 0 := IntWalk.i64_in _ (by omega)
  have q2 : IntKind.u64.wrap 0 = 0 := IntWalk.u64_in _ (by omega)
  have hnq := ne_eof
  have hE1 := hE.below ((Below.refl _ _).alloc (Nat.le_refl _) (.cells cur 5))
  obtain ⟨ae, hae⟩ := hE1.eof
  have HH := Lib.hid hs
  clear hs
  go_enter Tryd.func38, Tryd.ntmps38
  go_wp2_with fail
  refine (srReadAt_none gs gr base off n _ _ _ (HH.out.alloc _) hl2 hae).mono ?_
  rintro e w1 ⟨rfl, q, rfl⟩
  go_wp2_with fail
  go_ret2
  exact ⟨by simp, (Keeps.refl (fun _ => False) w).alloc _ |>.drewN q |>.below (Nat.le_refl _) (fun _ h => h.elim)⟩
end Go.Proofs.YtpdjolkbjcdimaaDoor
