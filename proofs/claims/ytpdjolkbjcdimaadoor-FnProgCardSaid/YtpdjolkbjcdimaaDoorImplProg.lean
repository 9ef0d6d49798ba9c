/- impl.Prog: the header of a program at the front of bytes, or none, printed by program. -/
import Derived.Test.YtpdjolkbjcdimaaDoorZzProg
import Derived.Test.YtpdjolkbjcdimaaDoorCopied
import Derived.Defers
import Derived.Recover
namespace Go.Proofs.YtpdjolkbjcdimaaDoor
open Go.RowKit

theorem catch_Prog (p q : Addr) (w : World) :
    CallsD Tryd.prog 20 #[.pointer (some p), .pointer (some q)] .returning w fun e u' w' => e = .returned (.tuple #[]) ∧ u' = .returning ∧ w' = w := by
  refine callsD_of_wpS Tryd.func20 rfl fun c₀ cs hu => ?_
  apply wpS_seq
  apply wpS_region
  simp [wpOpsS, go_sem, recoverD, hu, Tryd.ntmps20, Exit.thenS]
  refine wpS_cond (t := false) (by simp [Act.eval, Array.replicate]) ?_
  simp only [Bool.false_eq_true, if_false]
  refine wpS_of_wp (wp_skip ?_)
  cases c₀
  simp_all [bodyPostS, results, Tryd.results20]

/-- The results of a function that hands back a whole block and a cell. -/
theorem results_whole_cell {P : Program} {w : World} {g : Nat} {t : TypeId} {cs : Array Value} {fn : Func} {p q : Tmp} {ty uy : TypeId} (hr : fn.results = #[.cell p ty, .cell q uy]) (tmps : Array Value) (h : Blk w g t cs) (d : TypeDesc)
    (hp : tmps.getD p undef = .pointer (some ⟨g, 0, none⟩)) (hu : P.underlying ty = some d) (hd : d.isRow = true) (hi : (P.info? ty).map (·.size) = some cs.size)
    (a : Addr) (hq : tmps.getD q undef = .pointer (some a)) (u : Value) (hl : (loadVar uy a).run P w = .ok u w) :
    (results fn tmps).run P w = .ok (.tuple #[.agg cs, u]) w := by
  have hp' : tmps[p]?.getD undef = .pointer (some ⟨g, 0, none⟩) := by simpa using hp
  have hq' : tmps[q]?.getD undef = .pointer (some a) := by simpa using hq
  have hl2 := run_loadVar_mid (P := P) w g 0 ty cs.toList d h.range_ hu hd (by simpa using hi)
  simp [results, hr, hp', hq', asAddr, hl2, hl]

set_option maxRecDepth 100000 in
set_option maxHeartbeats 1600000 in
theorem impl_Prog (A : Option Addr) (l : List UInt8) (c : Nat) (w : World) (hb : Bs w A l) (hi : 32 ≤ l.length) (hl : l.length ≤ 140737488355328) :
    Calls Tryd.prog 6 #[.slice A l.length c] w fun e w' => e = .returned (.tuple #[.agg #[.int .u32 (bev l 0 4 : Nat), .int .u32 (bev l 4 4 : Nat), .int .u32 (bev l 8 4 : Nat), .int .u32 (bev l 12 4 : Nat), .int .u32 (bev l 16 4 : Nat), .int .u32 (bev l 20 4 : Nat), .int .u32 (bev l 24 4 : Nat), .int .u32 (bev l 28 4 : Nat)], .bool true]) ∧ Below w.heap.size w w' := by
  have hmf : ∀ (fn : Fn) (first cap : Array Value) (w : World), (Instr.makeFunc fn first cap).run Tryd.prog w = .ok (.func fn first cap) w := fun _ _ _ _ => rfl
  go_enter_defers Tryd.func6, Tryd.ntmps6
  go_wp2_with fail
  refine (copied_any A l c _ ((hb.alloc _).alloc _) (by omega)).mono ?_
  rintro e w1 ⟨A', c', rfl, hown, hbel⟩
  go_wp2_with fail
  obtain ⟨hb1, _, hc1, hm1, hlo⟩ := Bs.of_own hown
  have hB : Blk w1 w.heap.size 24 _ := ((Blk.new w 24 _).alloc _).below hbel (by simp; omega)
  have hB' : Blk w1 (w.heap.size + 1) 4 _ := (Blk.at_ (w.alloc (.cells #[.int .u32 0, .int .u32 0, .int .u32 0, .int .u32 0, .int .u32 0, .int .u32 0, .int .u32 0, .int .u32 0] 24)) 4 _ (by simp)).below hbel (by simp)
  have hkeep : Below w.heap.size w w1 := (((Below.refl _ _).alloc (Nat.le_refl _) _).alloc (by simp) _).trans (hbel.mono (by simp; omega))
  have hz1 : w.heap.size + 1 < w1.heap.size := hB'.lt
  refine (zz_Prog A' l c' _ hb1 (fun b o h => (hlo b o h).2) hi hc1 hm1).mono ?_
  rintro e w2 ⟨rfl, hbel2⟩
  have hC := hB.below hbel2 (by omega)
  have hC' := hB'.below hbel2 (by omega)
  have hk2 : Below w.heap.size w w2 := hkeep.trans (hbel2.mono (by omega))
  have hz2 : w.heap.size + 1 < w2.heap.size := hC'.lt
  have c0 := hC.cell 0
  have cf0 := hC.frozen 0
  have c1 := hC.cell 1
  have cf1 := hC.frozen 1
  have c2 := hC.cell 2
  have cf2 := hC.frozen 2
  have c3 := hC.cell 3
  have cf3 := hC.frozen 3
  have c4 := hC.cell 4
  have cf4 := hC.frozen 4
  have c5 := hC.cell 5
  have cf5 := hC.frozen 5
  have c6 := hC.cell 6
  have cf6 := hC.frozen 6
  have c7 := hC.cell 7
  have cf7 := hC.frozen 7
  simp only [List.getElem?_toArray, List.getElem?_cons_zero, List.getElem?_cons_succ] at c0 c1 c2 c3 c4 c5 c6 c7
  have c1b := hC'.cell 0
  have f1b := hC'.frozen 0
  simp only [List.getElem?_toArray, List.getElem?_cons_zero] at c1b
  clear hb1 hlo hown hb hB hB' hkeep hbel hbel2
  generalize hg0 : w.heap.size = g0 at *
  have HG0 := Lib.hid hg0
  clear hg0
  go_wp2_with fail
  have h0 := ((((((((((((((((hC.set_ 0 (.int .u32 (bev l 0 4 : Nat))).set_ 1 (.int .u32 (bev l 4 4 : Nat))).set_ 2 (.int .u32 (bev l 8 4 : Nat))).set_ 3 (.int .u32 (bev l 12 4 : Nat))).set_ 4 (.int .u32 (bev l 16 4 : Nat))).set_ 5 (.int .u32 (bev l 20 4 : Nat))).set_ 6 (.int .u32 (bev l 24 4 : Nat))).set_ 7 (.int .u32 (bev l 28 4 : Nat))).set_ 0 (.int .u32 (bev l 0 4 : Nat))).set_ 1 (.int .u32 (bev l 4 4 : Nat))).set_ 2 (.int .u32 (bev l 8 4 : Nat))).set_ 3 (.int .u32 (bev l 12 4 : Nat))).set_ 4 (.int .u32 (bev l 16 4 : Nat))).set_ 5 (.int .u32 (bev l 20 4 : Nat))).set_ 6 (.int .u32 (bev l 24 4 : Nat))).set_ 7 (.int .u32 (bev l 28 4 : Nat))).far (p := ⟨g0 + 1, 0, none⟩) (by simp) (.bool true)
  have h1 := ((((((((((((((((hC'.far (p := ⟨g0, 0, none⟩) (by simp) (.int .u32 (bev l 0 4 : Nat))).far (p := ⟨g0, 1, none⟩) (by simp) (.int .u32 (bev l 4 4 : Nat))).far (p := ⟨g0, 2, none⟩) (by simp) (.int .u32 (bev l 8 4 : Nat))).far (p := ⟨g0, 3, none⟩) (by simp) (.int .u32 (bev l 12 4 : Nat))).far (p := ⟨g0, 4, none⟩) (by simp) (.int .u32 (bev l 16 4 : Nat))).far (p := ⟨g0, 5, none⟩) (by simp) (.int .u32 (bev l 20 4 : Nat))).far (p := ⟨g0, 6, none⟩) (by simp) (.int .u32 (bev l 24 4 : Nat))).far (p := ⟨g0, 7, none⟩) (by simp) (.int .u32 (bev l 28 4 : Nat))).far (p := ⟨g0, 0, none⟩) (by simp) (.int .u32 (bev l 0 4 : Nat))).far (p := ⟨g0, 1, none⟩) (by simp) (.int .u32 (bev l 4 4 : Nat))).far (p := ⟨g0, 2, none⟩) (by simp) (.int .u32 (bev l 8 4 : Nat))).far (p := ⟨g0, 3, none⟩) (by simp) (.int .u32 (bev l 12 4 : Nat))).far (p := ⟨g0, 4, none⟩) (by simp) (.int .u32 (bev l 16 4 : Nat))).far (p := ⟨g0, 5, none⟩) (by simp) (.int .u32 (bev l 20 4 : Nat))).far (p := ⟨g0, 6, none⟩) (by simp) (.int .u32 (bev l 24 4 : Nat))).far (p := ⟨g0, 7, none⟩) (by simp) (.int .u32 (bev l 28 4 : Nat))).set_ 0 (.bool true)
  have hk9 : Below g0 w _ := ((((((((((((((((hk2.setCell (p := ⟨g0, 0, none⟩) (Nat.le_refl _) (.int .u32 (bev l 0 4 : Nat))).setCell (p := ⟨g0, 1, none⟩) (Nat.le_refl _) (.int .u32 (bev l 4 4 : Nat))).setCell (p := ⟨g0, 2, none⟩) (Nat.le_refl _) (.int .u32 (bev l 8 4 : Nat))).setCell (p := ⟨g0, 3, none⟩) (Nat.le_refl _) (.int .u32 (bev l 12 4 : Nat))).setCell (p := ⟨g0, 4, none⟩) (Nat.le_refl _) (.int .u32 (bev l 16 4 : Nat))).setCell (p := ⟨g0, 5, none⟩) (Nat.le_refl _) (.int .u32 (bev l 20 4 : Nat))).setCell (p := ⟨g0, 6, none⟩) (Nat.le_refl _) (.int .u32 (bev l 24 4 : Nat))).setCell (p := ⟨g0, 7, none⟩) (Nat.le_refl _) (.int .u32 (bev l 28 4 : Nat))).setCell (p := ⟨g0, 0, none⟩) (Nat.le_refl _) (.int .u32 (bev l 0 4 : Nat))).setCell (p := ⟨g0, 1, none⟩) (Nat.le_refl _) (.int .u32 (bev l 4 4 : Nat))).setCell (p := ⟨g0, 2, none⟩) (Nat.le_refl _) (.int .u32 (bev l 8 4 : Nat))).setCell (p := ⟨g0, 3, none⟩) (Nat.le_refl _) (.int .u32 (bev l 12 4 : Nat))).setCell (p := ⟨g0, 4, none⟩) (Nat.le_refl _) (.int .u32 (bev l 16 4 : Nat))).setCell (p := ⟨g0, 5, none⟩) (Nat.le_refl _) (.int .u32 (bev l 20 4 : Nat))).setCell (p := ⟨g0, 6, none⟩) (Nat.le_refl _) (.int .u32 (bev l 24 4 : Nat))).setCell (p := ⟨g0, 7, none⟩) (Nat.le_refl _) (.int .u32 (bev l 28 4 : Nat))).setCell (p := ⟨g0 + 1, 0, none⟩) (by simp) (.bool true)
  generalize ((((((((((((((((w2.setCell ⟨g0, 0, none⟩ (.int .u32 (bev l 0 4 : Nat))).setCell ⟨g0, 1, none⟩ (.int .u32 (bev l 4 4 : Nat))).setCell ⟨g0, 2, none⟩ (.int .u32 (bev l 8 4 : Nat))).setCell ⟨g0, 3, none⟩ (.int .u32 (bev l 12 4 : Nat))).setCell ⟨g0, 4, none⟩ (.int .u32 (bev l 16 4 : Nat))).setCell ⟨g0, 5, none⟩ (.int .u32 (bev l 20 4 : Nat))).setCell ⟨g0, 6, none⟩ (.int .u32 (bev l 24 4 : Nat))).setCell ⟨g0, 7, none⟩ (.int .u32 (bev l 28 4 : Nat))).setCell ⟨g0, 0, none⟩ (.int .u32 (bev l 0 4 : Nat))).setCell ⟨g0, 1, none⟩ (.int .u32 (bev l 4 4 : Nat))).setCell ⟨g0, 2, none⟩ (.int .u32 (bev l 8 4 : Nat))).setCell ⟨g0, 3, none⟩ (.int .u32 (bev l 12 4 : Nat))).setCell ⟨g0, 4, none⟩ (.int .u32 (bev l 16 4 : Nat))).setCell ⟨g0, 5, none⟩ (.int .u32 (bev l 20 4 : Nat))).setCell ⟨g0, 6, none⟩ (.int .u32 (bev l 24 4 : Nat))).setCell ⟨g0, 7, none⟩ (.int .u32 (bev l 28 4 : Nat))).setCell ⟨g0 + 1, 0, none⟩ (.bool true) = w5 at h0 h1 hk9 ⊢
  simp only [List.setIfInBounds_toArray, List.set_cons_succ, List.set_cons_zero] at h0 h1
  refine leaves_cons (f := 20) (args := #[.pointer (some ⟨g0, 0, none⟩), .pointer (some ⟨g0 + 1, 0, none⟩)]) (by simp) (by simp [go_sem]) ?_
  refine (catch_Prog ⟨g0, 0, none⟩ ⟨g0 + 1, 0, none⟩ _).mono ?_
  rintro e u' w9 ⟨rfl, rfl, rfl⟩
  have d1 := h1.cell 0
  simp only [List.getElem?_toArray, List.getElem?_cons_zero] at d1
  refine ⟨.tuple #[.agg #[.int .u32 (bev l 0 4 : Nat), .int .u32 (bev l 4 4 : Nat), .int .u32 (bev l 8 4 : Nat), .int .u32 (bev l 12 4 : Nat), .int .u32 (bev l 16 4 : Nat), .int .u32 (bev l 20 4 : Nat), .int .u32 (bev l 24 4 : Nat), .int .u32 (bev l 28 4 : Nat)], .bool true], ?_, rfl, by rw [HG0.out]; exact hk9⟩
  exact results_whole_cell (fn := Tryd.f6) (p := 2) (q := 3) (ty := 24) (uy := 4) rfl _ h0 _ rfl Tryd.underlying24 rfl (by kernel_rfl) ⟨g0 + 1, 0, none⟩ rfl _ (by simp [go_sem, d1])

set_option maxRecDepth 100000 in
set_option maxHeartbeats 1600000 in
theorem impls_Prog (A : Option Addr) (l : List UInt8) (c : Nat) (w : World) (hE : Eofs w) (hb : Bs w A l) (hi : l.length < 32) :
    Calls Tryd.prog 6 #[.slice A l.length c] w fun e w' => e = .returned (.tuple #[.agg #[.int .u32 0, .int .u32 0, .int .u32 0, .int .u32 0, .int .u32 0, .int .u32 0, .int .u32 0, .int .u32 0], .bool false]) ∧ Below w.heap.size w w' := by
  have hmf : ∀ (fn : Fn) (first cap : Array Value) (w : World), (Instr.makeFunc fn first cap).run Tryd.prog w = .ok (.func fn first cap) w := fun _ _ _ _ => rfl
  go_enter_defers Tryd.func6, Tryd.ntmps6
  go_wp2_with fail
  refine (copied_any A l c _ ((hb.alloc _).alloc _) (by omega)).mono ?_
  rintro e w1 ⟨A', c', rfl, hown, hbel⟩
  go_wp2_with fail
  obtain ⟨hb1, _, hc1, hm1, hlo⟩ := Bs.of_own hown
  have hB : Blk w1 w.heap.size 24 _ := ((Blk.new w 24 _).alloc _).below hbel (by simp; omega)
  have hB' : Blk w1 (w.heap.size + 1) 4 _ := (Blk.at_ (w.alloc (.cells #[.int .u32 0, .int .u32 0, .int .u32 0, .int .u32 0, .int .u32 0, .int .u32 0, .int .u32 0, .int .u32 0] 24)) 4 _ (by simp)).below hbel (by simp)
  have hkeep : Below w.heap.size w w1 := (((Below.refl _ _).alloc (Nat.le_refl _) _).alloc (by simp) _).trans (hbel.mono (by simp; omega))
  have hz1 : w.heap.size + 1 < w1.heap.size := hB'.lt
  have hE1 : Eofs w1 := (hE.below ((Below.refl _ _).alloc (Nat.le_refl _) _)).below ((Below.refl _ _).alloc (Nat.le_refl _) _) |>.below hbel
  refine (zzs_Prog A' l c' _ hE1 hb1 (fun b o h => (hlo b o h).2) hi hc1 hm1).mono ?_
  rintro e w2 ⟨⟨u, x, rfl⟩, hbel2⟩
  have hC := hB.below hbel2 (by omega)
  have hC' := hB'.below hbel2 (by omega)
  have hk2 : Below w.heap.size w w2 := hkeep.trans (hbel2.mono (by omega))
  have hz2 : w.heap.size + 1 < w2.heap.size := hC'.lt
  have c0 := hC.cell 0
  have cf0 := hC.frozen 0
  have c1 := hC.cell 1
  have cf1 := hC.frozen 1
  have c2 := hC.cell 2
  have cf2 := hC.frozen 2
  have c3 := hC.cell 3
  have cf3 := hC.frozen 3
  have c4 := hC.cell 4
  have cf4 := hC.frozen 4
  have c5 := hC.cell 5
  have cf5 := hC.frozen 5
  have c6 := hC.cell 6
  have cf6 := hC.frozen 6
  have c7 := hC.cell 7
  have cf7 := hC.frozen 7
  simp only [List.getElem?_toArray, List.getElem?_cons_zero, List.getElem?_cons_succ] at c0 c1 c2 c3 c4 c5 c6 c7
  have c1b := hC'.cell 0
  have f1b := hC'.frozen 0
  simp only [List.getElem?_toArray, List.getElem?_cons_zero] at c1b
  clear hb1 hlo hown hb hB hB' hkeep hbel hbel2 hE hE1
  generalize hg0 : w.heap.size = g0 at *
  have HG0 := Lib.hid hg0
  clear hg0
  go_wp2_with fail
  have h0 := ((((((((((((((((hC.set_ 0 (.int .u32 0)).set_ 1 (.int .u32 0)).set_ 2 (.int .u32 0)).set_ 3 (.int .u32 0)).set_ 4 (.int .u32 0)).set_ 5 (.int .u32 0)).set_ 6 (.int .u32 0)).set_ 7 (.int .u32 0)).set_ 0 (.int .u32 0)).set_ 1 (.int .u32 0)).set_ 2 (.int .u32 0)).set_ 3 (.int .u32 0)).set_ 4 (.int .u32 0)).set_ 5 (.int .u32 0)).set_ 6 (.int .u32 0)).set_ 7 (.int .u32 0)).far (p := ⟨g0 + 1, 0, none⟩) (by simp) (.bool false)
  have h1 := ((((((((((((((((hC'.far (p := ⟨g0, 0, none⟩) (by simp) (.int .u32 0)).far (p := ⟨g0, 1, none⟩) (by simp) (.int .u32 0)).far (p := ⟨g0, 2, none⟩) (by simp) (.int .u32 0)).far (p := ⟨g0, 3, none⟩) (by simp) (.int .u32 0)).far (p := ⟨g0, 4, none⟩) (by simp) (.int .u32 0)).far (p := ⟨g0, 5, none⟩) (by simp) (.int .u32 0)).far (p := ⟨g0, 6, none⟩) (by simp) (.int .u32 0)).far (p := ⟨g0, 7, none⟩) (by simp) (.int .u32 0)).far (p := ⟨g0, 0, none⟩) (by simp) (.int .u32 0)).far (p := ⟨g0, 1, none⟩) (by simp) (.int .u32 0)).far (p := ⟨g0, 2, none⟩) (by simp) (.int .u32 0)).far (p := ⟨g0, 3, none⟩) (by simp) (.int .u32 0)).far (p := ⟨g0, 4, none⟩) (by simp) (.int .u32 0)).far (p := ⟨g0, 5, none⟩) (by simp) (.int .u32 0)).far (p := ⟨g0, 6, none⟩) (by simp) (.int .u32 0)).far (p := ⟨g0, 7, none⟩) (by simp) (.int .u32 0)).set_ 0 (.bool false)
  have hk9 : Below g0 w _ := ((((((((((((((((hk2.setCell (p := ⟨g0, 0, none⟩) (Nat.le_refl _) (.int .u32 0)).setCell (p := ⟨g0, 1, none⟩) (Nat.le_refl _) (.int .u32 0)).setCell (p := ⟨g0, 2, none⟩) (Nat.le_refl _) (.int .u32 0)).setCell (p := ⟨g0, 3, none⟩) (Nat.le_refl _) (.int .u32 0)).setCell (p := ⟨g0, 4, none⟩) (Nat.le_refl _) (.int .u32 0)).setCell (p := ⟨g0, 5, none⟩) (Nat.le_refl _) (.int .u32 0)).setCell (p := ⟨g0, 6, none⟩) (Nat.le_refl _) (.int .u32 0)).setCell (p := ⟨g0, 7, none⟩) (Nat.le_refl _) (.int .u32 0)).setCell (p := ⟨g0, 0, none⟩) (Nat.le_refl _) (.int .u32 0)).setCell (p := ⟨g0, 1, none⟩) (Nat.le_refl _) (.int .u32 0)).setCell (p := ⟨g0, 2, none⟩) (Nat.le_refl _) (.int .u32 0)).setCell (p := ⟨g0, 3, none⟩) (Nat.le_refl _) (.int .u32 0)).setCell (p := ⟨g0, 4, none⟩) (Nat.le_refl _) (.int .u32 0)).setCell (p := ⟨g0, 5, none⟩) (Nat.le_refl _) (.int .u32 0)).setCell (p := ⟨g0, 6, none⟩) (Nat.le_refl _) (.int .u32 0)).setCell (p := ⟨g0, 7, none⟩) (Nat.le_refl _) (.int .u32 0)).setCell (p := ⟨g0 + 1, 0, none⟩) (by simp) (.bool false)
  generalize ((((((((((((((((w2.setCell ⟨g0, 0, none⟩ (.int .u32 0)).setCell ⟨g0, 1, none⟩ (.int .u32 0)).setCell ⟨g0, 2, none⟩ (.int .u32 0)).setCell ⟨g0, 3, none⟩ (.int .u32 0)).setCell ⟨g0, 4, none⟩ (.int .u32 0)).setCell ⟨g0, 5, none⟩ (.int .u32 0)).setCell ⟨g0, 6, none⟩ (.int .u32 0)).setCell ⟨g0, 7, none⟩ (.int .u32 0)).setCell ⟨g0, 0, none⟩ (.int .u32 0)).setCell ⟨g0, 1, none⟩ (.int .u32 0)).setCell ⟨g0, 2, none⟩ (.int .u32 0)).setCell ⟨g0, 3, none⟩ (.int .u32 0)).setCell ⟨g0, 4, none⟩ (.int .u32 0)).setCell ⟨g0, 5, none⟩ (.int .u32 0)).setCell ⟨g0, 6, none⟩ (.int .u32 0)).setCell ⟨g0, 7, none⟩ (.int .u32 0)).setCell ⟨g0 + 1, 0, none⟩ (.bool false) = w5 at h0 h1 hk9 ⊢
  simp only [List.setIfInBounds_toArray, List.set_cons_succ, List.set_cons_zero] at h0 h1
  refine leaves_cons (f := 20) (args := #[.pointer (some ⟨g0, 0, none⟩), .pointer (some ⟨g0 + 1, 0, none⟩)]) (by simp) (by simp [go_sem]) ?_
  refine (catch_Prog ⟨g0, 0, none⟩ ⟨g0 + 1, 0, none⟩ _).mono ?_
  rintro e u' w9 ⟨rfl, rfl, rfl⟩
  have d1 := h1.cell 0
  simp only [List.getElem?_toArray, List.getElem?_cons_zero] at d1
  refine ⟨.tuple #[.agg #[.int .u32 0, .int .u32 0, .int .u32 0, .int .u32 0, .int .u32 0, .int .u32 0, .int .u32 0, .int .u32 0], .bool false], ?_, rfl, by rw [HG0.out]; exact hk9⟩
  exact results_whole_cell (fn := Tryd.f6) (p := 2) (q := 3) (ty := 24) (uy := 4) rfl _ h0 _ rfl Tryd.underlying24 rfl (by kernel_rfl) ⟨g0 + 1, 0, none⟩ rfl _ (by simp [go_sem, d1])
end Go.Proofs.YtpdjolkbjcdimaaDoor
