/- plan9obj.ZZProg: the header of a program, out of a reader over bytes, printed by program. -/
import Derived.Test.YtpdjolkbjcdimaaDoorReadProg
import Derived.Test.YtpdjolkbjcdimaaDoorWhole
namespace Go.Proofs.YtpdjolkbjcdimaaDoor
open Go.RowKit

set_option maxRecDepth 100000 in
set_option maxHeartbeats 1600000 in
theorem zz_Prog (A : Option Addr) (l : List UInt8) (c : Nat) (w : World) (hb : Bs w A l) (hA : ∀ b o, A = some ⟨b, o, none⟩ → b < w.heap.size) (hi : 32 ≤ l.length) (hc : l.length ≤ c) (hm : c ≤ maxLen) :
    Calls Tryd.prog 21 #[.slice A l.length c] w fun e w' => e = .returned (.tuple #[.agg #[.int .u32 (bev l 0 4 : Nat), .int .u32 (bev l 4 4 : Nat), .int .u32 (bev l 8 4 : Nat), .int .u32 (bev l 12 4 : Nat), .int .u32 (bev l 16 4 : Nat), .int .u32 (bev l 20 4 : Nat), .int .u32 (bev l 24 4 : Nat), .int .u32 (bev l 28 4 : Nat)], .nilIface]) ∧ Below w.heap.size w w' := by
  go_enter Tryd.func21, Tryd.ntmps21
  go_wp2_with fail
  refine (newReader_any A l.length c _).mono ?_
  rintro e w1 ⟨rfl, rfl⟩
  go_wp2_with fail
  refine (read_Prog (w.heap.size + 2) (w.heap.size + 1) 0 c (-1) A l _ ((Blk.at_ _ _ _ (by simp)).alloc _) (Blk.at_ _ _ _ (by simp)) (((hb.alloc _).alloc _).alloc _) (by omega) (fun b o h => by have := hA b o h; omega) (by omega) hc hm).mono ?_
  rintro e w2 ⟨rfl, hv, _, hK⟩
  rw [List.drop_zero, bev_take l 32 0 4 (by omega), bev_take l 32 4 4 (by omega), bev_take l 32 8 4 (by omega), bev_take l 32 12 4 (by omega), bev_take l 32 16 4 (by omega), bev_take l 32 20 4 (by omega), bev_take l 32 24 4 (by omega), bev_take l 32 28 4 (by omega)] at hv
  have ho : Blk w2 w.heap.size 24 _ := (((Blk.new w _ _).alloc _).alloc _).keeps hK (by omega)
  have hkeep : Below w.heap.size w w2 := ((((Below.refl _ _).alloc (Nat.le_refl _) _).alloc (by simp) _).alloc (by simp; omega) _).trans (hK.below (by simp; omega) (fun i h => by omega))
  clear hb hA hK
  have c0 := hv.cell 0
  have cf0 := hv.frozen 0
  have c1 := hv.cell 1
  have cf1 := hv.frozen 1
  have c2 := hv.cell 2
  have cf2 := hv.frozen 2
  have c3 := hv.cell 3
  have cf3 := hv.frozen 3
  have c4 := hv.cell 4
  have cf4 := hv.frozen 4
  have c5 := hv.cell 5
  have cf5 := hv.frozen 5
  have c6 := hv.cell 6
  have cf6 := hv.frozen 6
  have c7 := hv.cell 7
  have cf7 := hv.frozen 7
  simp only [List.getElem?_toArray, List.getElem?_cons_zero, List.getElem?_cons_succ] at c0 c1 c2 c3 c4 c5 c6 c7
  have o0 := ho.cell 0
  have of0 := ho.frozen 0
  have o1 := ho.cell 1
  have of1 := ho.frozen 1
  have o2 := ho.cell 2
  have of2 := ho.frozen 2
  have o3 := ho.cell 3
  have of3 := ho.frozen 3
  have o4 := ho.cell 4
  have of4 := ho.frozen 4
  have o5 := ho.cell 5
  have of5 := ho.frozen 5
  have o6 := ho.cell 6
  have of6 := ho.frozen 6
  have o7 := ho.cell 7
  have of7 := ho.frozen 7
  simp only [List.getElem?_toArray, List.getElem?_cons_zero, List.getElem?_cons_succ] at o0 o1 o2 o3 o4 o5 o6 o7
  generalize hg0 : w.heap.size = g0 at *
  have HG0 := Lib.hid hg0
  clear hg0
  go_wp2_with fail
  have hv3 := ((((((((ho.set_ 0 (.int .u32 (bev l 0 4 : Nat))).set_ 1 (.int .u32 (bev l 4 4 : Nat))).set_ 2 (.int .u32 (bev l 8 4 : Nat))).set_ 3 (.int .u32 (bev l 12 4 : Nat))).set_ 4 (.int .u32 (bev l 16 4 : Nat))).set_ 5 (.int .u32 (bev l 20 4 : Nat))).set_ 6 (.int .u32 (bev l 24 4 : Nat))).set_ 7 (.int .u32 (bev l 28 4 : Nat)))
  have hk3 : Below g0 w _ := ((((((((hkeep.setCell (p := ⟨g0, 0, none⟩) (Nat.le_refl _) (.int .u32 (bev l 0 4 : Nat))).setCell (p := ⟨g0, 1, none⟩) (Nat.le_refl _) (.int .u32 (bev l 4 4 : Nat))).setCell (p := ⟨g0, 2, none⟩) (Nat.le_refl _) (.int .u32 (bev l 8 4 : Nat))).setCell (p := ⟨g0, 3, none⟩) (Nat.le_refl _) (.int .u32 (bev l 12 4 : Nat))).setCell (p := ⟨g0, 4, none⟩) (Nat.le_refl _) (.int .u32 (bev l 16 4 : Nat))).setCell (p := ⟨g0, 5, none⟩) (Nat.le_refl _) (.int .u32 (bev l 20 4 : Nat))).setCell (p := ⟨g0, 6, none⟩) (Nat.le_refl _) (.int .u32 (bev l 24 4 : Nat))).setCell (p := ⟨g0, 7, none⟩) (Nat.le_refl _) (.int .u32 (bev l 28 4 : Nat)))
  generalize ((((((((w2.setCell ⟨g0, 0, none⟩ (.int .u32 (bev l 0 4 : Nat))).setCell ⟨g0, 1, none⟩ (.int .u32 (bev l 4 4 : Nat))).setCell ⟨g0, 2, none⟩ (.int .u32 (bev l 8 4 : Nat))).setCell ⟨g0, 3, none⟩ (.int .u32 (bev l 12 4 : Nat))).setCell ⟨g0, 4, none⟩ (.int .u32 (bev l 16 4 : Nat))).setCell ⟨g0, 5, none⟩ (.int .u32 (bev l 20 4 : Nat))).setCell ⟨g0, 6, none⟩ (.int .u32 (bev l 24 4 : Nat))).setCell ⟨g0, 7, none⟩ (.int .u32 (bev l 28 4 : Nat))) = w3 at hv3 hk3 ⊢
  simp only [List.setIfInBounds_toArray, List.set_cons_succ, List.set_cons_zero] at hv3
  rw [HG0.out]
  refine bodyPost_ret (v := .tuple #[.agg #[.int .u32 (bev l 0 4 : Nat), .int .u32 (bev l 4 4 : Nat), .int .u32 (bev l 8 4 : Nat), .int .u32 (bev l 12 4 : Nat), .int .u32 (bev l 16 4 : Nat), .int .u32 (bev l 20 4 : Nat), .int .u32 (bev l 24 4 : Nat), .int .u32 (bev l 28 4 : Nat)], .nilIface]) (by exact results_whole_tmp (fn := Tryd.f21) (p := 2) (q := 3) (ty := 24) rfl _ hv3 _ rfl Tryd.underlying24 rfl (by kernel_rfl)) rfl ⟨rfl, hk3⟩

set_option maxRecDepth 100000 in
set_option maxHeartbeats 1600000 in
theorem zzs_Prog (A : Option Addr) (l : List UInt8) (c : Nat) (w : World) (hE : Eofs w) (hb : Bs w A l) (hA : ∀ b o, A = some ⟨b, o, none⟩ → b < w.heap.size) (hi : l.length < 32) (hc : l.length ≤ c) (hm : c ≤ maxLen) :
    Calls Tryd.prog 21 #[.slice A l.length c] w fun e w' => (∃ u x, e = .returned (.tuple #[.agg #[.int .u32 0, .int .u32 0, .int .u32 0, .int .u32 0, .int .u32 0, .int .u32 0, .int .u32 0, .int .u32 0], .iface u x])) ∧ Below w.heap.size w w' := by
  have hge : 2 < w.heap.size := by obtain ⟨a, ha⟩ := hE.eof; exact World.block_lt_of_cell? w _ ha
  have hgu : 1 < w.heap.size := by obtain ⟨a, ha⟩ := hE.unx; exact World.block_lt_of_cell? w _ ha
  go_enter Tryd.func21, Tryd.ntmps21
  go_wp2_with fail
  refine (newReader_any A l.length c _).mono ?_
  rintro e w1 ⟨rfl, rfl⟩
  go_wp2_with fail
  refine (short_Prog (w.heap.size + 2) (w.heap.size + 1) 0 c (-1) A l _ (hE.keep ((Below.heap_alloc _ _ _ (by first | (simp; done) | (simp; omega))).trans ((Below.heap_alloc _ _ _ (by first | (simp; done) | (simp; omega))).trans (Below.heap_alloc _ _ _ hge))) ((Below.heap_alloc _ _ _ (by first | (simp; done) | (simp; omega))).trans ((Below.heap_alloc _ _ _ (by first | (simp; done) | (simp; omega))).trans (Below.heap_alloc _ _ _ hgu)))) ((Blk.at_ _ _ _ (by simp)).alloc _) (Blk.at_ _ _ _ (by simp)) (((hb.alloc _).alloc _).alloc _) (fun b o h => by have := hA b o h; omega) (by omega) hc hm (by omega) (by omega)).mono ?_
  rintro e w2 ⟨⟨u, x, rfl⟩, hK⟩
  have ho : Blk w2 w.heap.size 24 _ := (((Blk.new w _ _).alloc _).alloc _).keeps hK (by omega)
  have hv : Blk w2 (w.heap.size + 1) 93 #[.int .u32 0, .int .u32 0, .int .u32 0, .int .u32 0, .int .u32 0, .int .u32 0, .int .u32 0, .int .u32 0] := ((Blk.at_ _ _ _ (by simp)).alloc _).keeps hK (by omega)
  have hkeep : Below w.heap.size w w2 := ((((Below.refl _ _).alloc (Nat.le_refl _) _).alloc (by simp) _).alloc (by simp; omega) _).trans (hK.below (by simp; omega) (fun i h => by omega))
  clear hb hA hK hE
  have c0 := hv.cell 0
  have cf0 := hv.frozen 0
  have c1 := hv.cell 1
  have cf1 := hv.frozen 1
  have c2 := hv.cell 2
  have cf2 := hv.frozen 2
  have c3 := hv.cell 3
  have cf3 := hv.frozen 3
  have c4 := hv.cell 4
  have cf4 := hv.frozen 4
  have c5 := hv.cell 5
  have cf5 := hv.frozen 5
  have c6 := hv.cell 6
  have cf6 := hv.frozen 6
  have c7 := hv.cell 7
  have cf7 := hv.frozen 7
  simp only [List.getElem?_toArray, List.getElem?_cons_zero, List.getElem?_cons_succ] at c0 c1 c2 c3 c4 c5 c6 c7
  have o0 := ho.cell 0
  have of0 := ho.frozen 0
  have o1 := ho.cell 1
  have of1 := ho.frozen 1
  have o2 := ho.cell 2
  have of2 := ho.frozen 2
  have o3 := ho.cell 3
  have of3 := ho.frozen 3
  have o4 := ho.cell 4
  have of4 := ho.frozen 4
  have o5 := ho.cell 5
  have of5 := ho.frozen 5
  have o6 := ho.cell 6
  have of6 := ho.frozen 6
  have o7 := ho.cell 7
  have of7 := ho.frozen 7
  simp only [List.getElem?_toArray, List.getElem?_cons_zero, List.getElem?_cons_succ] at o0 o1 o2 o3 o4 o5 o6 o7
  generalize hg0 : w.heap.size = g0 at *
  have HG0 := Lib.hid hg0
  clear hg0
  go_wp2_with fail
  have hv3 := ((((((((ho.set_ 0 (.int .u32 0)).set_ 1 (.int .u32 0)).set_ 2 (.int .u32 0)).set_ 3 (.int .u32 0)).set_ 4 (.int .u32 0)).set_ 5 (.int .u32 0)).set_ 6 (.int .u32 0)).set_ 7 (.int .u32 0))
  have hk3 : Below g0 w _ := ((((((((hkeep.setCell (p := ⟨g0, 0, none⟩) (Nat.le_refl _) (.int .u32 0)).setCell (p := ⟨g0, 1, none⟩) (Nat.le_refl _) (.int .u32 0)).setCell (p := ⟨g0, 2, none⟩) (Nat.le_refl _) (.int .u32 0)).setCell (p := ⟨g0, 3, none⟩) (Nat.le_refl _) (.int .u32 0)).setCell (p := ⟨g0, 4, none⟩) (Nat.le_refl _) (.int .u32 0)).setCell (p := ⟨g0, 5, none⟩) (Nat.le_refl _) (.int .u32 0)).setCell (p := ⟨g0, 6, none⟩) (Nat.le_refl _) (.int .u32 0)).setCell (p := ⟨g0, 7, none⟩) (Nat.le_refl _) (.int .u32 0))
  generalize ((((((((w2.setCell ⟨g0, 0, none⟩ (.int .u32 0)).setCell ⟨g0, 1, none⟩ (.int .u32 0)).setCell ⟨g0, 2, none⟩ (.int .u32 0)).setCell ⟨g0, 3, none⟩ (.int .u32 0)).setCell ⟨g0, 4, none⟩ (.int .u32 0)).setCell ⟨g0, 5, none⟩ (.int .u32 0)).setCell ⟨g0, 6, none⟩ (.int .u32 0)).setCell ⟨g0, 7, none⟩ (.int .u32 0)) = w3 at hv3 hk3 ⊢
  simp only [List.setIfInBounds_toArray, List.set_cons_succ, List.set_cons_zero] at hv3
  rw [HG0.out]
  refine bodyPost_ret (v := .tuple #[.agg #[.int .u32 0, .int .u32 0, .int .u32 0, .int .u32 0, .int .u32 0, .int .u32 0, .int .u32 0, .int .u32 0], .iface u x]) (by exact results_whole_tmp (fn := Tryd.f21) (p := 2) (q := 3) (ty := 24) rfl _ hv3 _ rfl Tryd.underlying24 rfl (by kernel_rfl)) rfl ⟨⟨u, x, rfl⟩, hk3⟩
end Go.Proofs.YtpdjolkbjcdimaaDoor
