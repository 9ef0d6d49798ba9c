/- xcoff.ZZLoaderHeader32: the struct of a reader over bytes, printed by program (gen/gen_zz.py). -/
import Derived.Test.YtngnocfmagmpmaaDoorReadLoaderHeader32
namespace Go.Proofs.YtngnocfmagmpmaaDoor
open Go.RowKit

set_option maxRecDepth 100000 in
set_option maxHeartbeats 1600000 in
theorem zz_LoaderHeader32 (A : Option Addr) (l : List UInt8) (c : Nat) (w : World) (hb : Bs w A l) (hA : ∀ b o, A = some ⟨b, o, none⟩ → b < w.heap.size) (hi : 32 ≤ l.length) (hc : l.length ≤ c) (hm : c ≤ maxLen) :
    Calls Tryd.prog 43 #[.slice A l.length c] w fun e w' => e = .returned (.tuple #[.agg #[.int .u32 (bev l 0 4 : Nat), .int .u32 (bev l 4 4 : Nat), .int .u32 (bev l 8 4 : Nat), .int .u32 (bev l 12 4 : Nat), .int .u32 (bev l 16 4 : Nat), .int .u32 (bev l 20 4 : Nat), .int .u32 (bev l 24 4 : Nat), .int .u32 (bev l 28 4 : Nat)], .nilIface]) ∧ Below w.heap.size w w' := by
  go_enter Tryd.func43, Tryd.ntmps43
  go_wp2_with fail
  refine (newReader_any A l.length c _).mono ?_
  rintro e w1 ⟨rfl, rfl⟩
  go_wp2_with fail
  refine (read_LoaderHeader32 (w.heap.size + 1) w.heap.size 0 c (-1) A l _ ((Blk.new w _ _).alloc _) (Blk.at_ _ _ _ (by simp)) ((hb.alloc _).alloc _) (by omega) (fun b o h => by have := hA b o h; omega) (by omega) hc hm).mono ?_
  rintro e w2 ⟨rfl, hv, _, hK⟩
  rw [List.drop_zero, bev_take l 32 0 4 (by omega), bev_take l 32 4 4 (by omega), bev_take l 32 8 4 (by omega), bev_take l 32 12 4 (by omega), bev_take l 32 16 4 (by omega), bev_take l 32 20 4 (by omega), bev_take l 32 24 4 (by omega), bev_take l 32 28 4 (by omega)] at hv
  have hkeep : Below w.heap.size w w2 := (((Below.refl _ _).alloc (Nat.le_refl _) _).alloc (by simp) _).trans (hK.below (by simp; omega) (fun i h => by omega))
  clear hb hA hK
  have c0 := hv.cell 0
  have f0 := hv.frozen 0
  have c1 := hv.cell 1
  have f1 := hv.frozen 1
  have c2 := hv.cell 2
  have f2 := hv.frozen 2
  have c3 := hv.cell 3
  have f3 := hv.frozen 3
  have c4 := hv.cell 4
  have f4 := hv.frozen 4
  have c5 := hv.cell 5
  have f5 := hv.frozen 5
  have c6 := hv.cell 6
  have f6 := hv.frozen 6
  have c7 := hv.cell 7
  have f7 := hv.frozen 7
  simp only [List.getElem?_toArray, List.getElem?_cons_zero, List.getElem?_cons_succ] at c0 c1 c2 c3 c4 c5 c6 c7
  go_wp2_with fail
  have hv3 := ((((((((hv.set_ 0 (.int .u32 (bev l 0 4 : Nat))).set_ 1 (.int .u32 (bev l 4 4 : Nat))).set_ 2 (.int .u32 (bev l 8 4 : Nat))).set_ 3 (.int .u32 (bev l 12 4 : Nat))).set_ 4 (.int .u32 (bev l 16 4 : Nat))).set_ 5 (.int .u32 (bev l 20 4 : Nat))).set_ 6 (.int .u32 (bev l 24 4 : Nat))).set_ 7 (.int .u32 (bev l 28 4 : Nat)))
  have hk3 : Below w.heap.size w _ := ((((((((hkeep.setCell (p := ⟨w.heap.size, 0, none⟩) (Nat.le_refl _) (.int .u32 (bev l 0 4 : Nat))).setCell (p := ⟨w.heap.size, 1, none⟩) (Nat.le_refl _) (.int .u32 (bev l 4 4 : Nat))).setCell (p := ⟨w.heap.size, 2, none⟩) (Nat.le_refl _) (.int .u32 (bev l 8 4 : Nat))).setCell (p := ⟨w.heap.size, 3, none⟩) (Nat.le_refl _) (.int .u32 (bev l 12 4 : Nat))).setCell (p := ⟨w.heap.size, 4, none⟩) (Nat.le_refl _) (.int .u32 (bev l 16 4 : Nat))).setCell (p := ⟨w.heap.size, 5, none⟩) (Nat.le_refl _) (.int .u32 (bev l 20 4 : Nat))).setCell (p := ⟨w.heap.size, 6, none⟩) (Nat.le_refl _) (.int .u32 (bev l 24 4 : Nat))).setCell (p := ⟨w.heap.size, 7, none⟩) (Nat.le_refl _) (.int .u32 (bev l 28 4 : Nat)))
  generalize ((((((((w2.setCell ⟨w.heap.size, 0, none⟩ (.int .u32 (bev l 0 4 : Nat))).setCell ⟨w.heap.size, 1, none⟩ (.int .u32 (bev l 4 4 : Nat))).setCell ⟨w.heap.size, 2, none⟩ (.int .u32 (bev l 8 4 : Nat))).setCell ⟨w.heap.size, 3, none⟩ (.int .u32 (bev l 12 4 : Nat))).setCell ⟨w.heap.size, 4, none⟩ (.int .u32 (bev l 16 4 : Nat))).setCell ⟨w.heap.size, 5, none⟩ (.int .u32 (bev l 20 4 : Nat))).setCell ⟨w.heap.size, 6, none⟩ (.int .u32 (bev l 24 4 : Nat))).setCell ⟨w.heap.size, 7, none⟩ (.int .u32 (bev l 28 4 : Nat))) = w3 at hv3 hk3 ⊢
  simp only [List.setIfInBounds_toArray, List.set_cons_succ, List.set_cons_zero] at hv3
  have d0 := hv3.cell 0
  have d1 := hv3.cell 1
  have d2 := hv3.cell 2
  have d3 := hv3.cell 3
  have d4 := hv3.cell 4
  have d5 := hv3.cell 5
  have d6 := hv3.cell 6
  have d7 := hv3.cell 7
  simp only [List.getElem?_toArray, List.getElem?_cons_zero, List.getElem?_cons_succ] at d0 d1 d2 d3 d4 d5 d6 d7
  exact bodyPost_ret (v := .tuple #[.agg #[.int .u32 (bev l 0 4 : Nat), .int .u32 (bev l 4 4 : Nat), .int .u32 (bev l 8 4 : Nat), .int .u32 (bev l 12 4 : Nat), .int .u32 (bev l 16 4 : Nat), .int .u32 (bev l 20 4 : Nat), .int .u32 (bev l 24 4 : Nat), .int .u32 (bev l 28 4 : Nat)], .nilIface]) (by simp [results, Tryd.results43, go_sem, d0, d1, d2, d3, d4, d5, d6, d7]) rfl ⟨rfl, hk3⟩

set_option maxRecDepth 100000 in
set_option maxHeartbeats 1600000 in
theorem zzs_LoaderHeader32 (A : Option Addr) (l : List UInt8) (c : Nat) (w : World) (hE : Eofs w) (hb : Bs w A l) (hA : ∀ b o, A = some ⟨b, o, none⟩ → b < w.heap.size) (hi : l.length < 32) (hc : l.length ≤ c) (hm : c ≤ maxLen) :
    Calls Tryd.prog 43 #[.slice A l.length c] w fun e w' => (∃ u x, e = .returned (.tuple #[.agg #[.int .u32 0, .int .u32 0, .int .u32 0, .int .u32 0, .int .u32 0, .int .u32 0, .int .u32 0, .int .u32 0], .iface u x])) ∧ Below w.heap.size w w' := by
  have hge : 1 < w.heap.size := by obtain ⟨a, ha⟩ := hE.eof; exact World.block_lt_of_cell? w _ ha
  have hgu : 2 < w.heap.size := by obtain ⟨a, ha⟩ := hE.unx; exact World.block_lt_of_cell? w _ ha
  go_enter Tryd.func43, Tryd.ntmps43
  go_wp2_with fail
  refine (newReader_any A l.length c _).mono ?_
  rintro e w1 ⟨rfl, rfl⟩
  go_wp2_with fail
  refine (short_LoaderHeader32 (w.heap.size + 1) w.heap.size 0 c (-1) A l _ (hE.keep ((Below.heap_alloc _ _ _ (by simp; omega)).trans (Below.heap_alloc _ _ _ hge)) ((Below.heap_alloc _ _ _ (by simp; omega)).trans (Below.heap_alloc _ _ _ hgu))) ((Blk.new w _ _).alloc _) (Blk.at_ _ _ _ (by simp)) ((hb.alloc _).alloc _) (fun b o h => by have := hA b o h; omega) (by omega) hc hm (by omega) (by omega)).mono ?_
  rintro e w2 ⟨⟨u, x, rfl⟩, hK⟩
  have hv : Blk w2 w.heap.size 60 _ := ((Blk.new w _ _).alloc _).keeps hK (by omega)
  have hkeep : Below w.heap.size w w2 := (((Below.refl _ _).alloc (Nat.le_refl _) _).alloc (by simp) _).trans (hK.below (by simp; omega) (fun i h => by omega))
  clear hb hA hK hE
  have c0 := hv.cell 0
  have f0 := hv.frozen 0
  have c1 := hv.cell 1
  have f1 := hv.frozen 1
  have c2 := hv.cell 2
  have f2 := hv.frozen 2
  have c3 := hv.cell 3
  have f3 := hv.frozen 3
  have c4 := hv.cell 4
  have f4 := hv.frozen 4
  have c5 := hv.cell 5
  have f5 := hv.frozen 5
  have c6 := hv.cell 6
  have f6 := hv.frozen 6
  have c7 := hv.cell 7
  have f7 := hv.frozen 7
  simp only [List.getElem?_toArray, List.getElem?_cons_zero, List.getElem?_cons_succ] at c0 c1 c2 c3 c4 c5 c6 c7
  go_wp2_with fail
  have hv3 := ((((((((hv.set_ 0 (.int .u32 0)).set_ 1 (.int .u32 0)).set_ 2 (.int .u32 0)).set_ 3 (.int .u32 0)).set_ 4 (.int .u32 0)).set_ 5 (.int .u32 0)).set_ 6 (.int .u32 0)).set_ 7 (.int .u32 0))
  have hk3 : Below w.heap.size w _ := ((((((((hkeep.setCell (p := ⟨w.heap.size, 0, none⟩) (Nat.le_refl _) (.int .u32 0)).setCell (p := ⟨w.heap.size, 1, none⟩) (Nat.le_refl _) (.int .u32 0)).setCell (p := ⟨w.heap.size, 2, none⟩) (Nat.le_refl _) (.int .u32 0)).setCell (p := ⟨w.heap.size, 3, none⟩) (Nat.le_refl _) (.int .u32 0)).setCell (p := ⟨w.heap.size, 4, none⟩) (Nat.le_refl _) (.int .u32 0)).setCell (p := ⟨w.heap.size, 5, none⟩) (Nat.le_refl _) (.int .u32 0)).setCell (p := ⟨w.heap.size, 6, none⟩) (Nat.le_refl _) (.int .u32 0)).setCell (p := ⟨w.heap.size, 7, none⟩) (Nat.le_refl _) (.int .u32 0))
  generalize ((((((((w2.setCell ⟨w.heap.size, 0, none⟩ (.int .u32 0)).setCell ⟨w.heap.size, 1, none⟩ (.int .u32 0)).setCell ⟨w.heap.size, 2, none⟩ (.int .u32 0)).setCell ⟨w.heap.size, 3, none⟩ (.int .u32 0)).setCell ⟨w.heap.size, 4, none⟩ (.int .u32 0)).setCell ⟨w.heap.size, 5, none⟩ (.int .u32 0)).setCell ⟨w.heap.size, 6, none⟩ (.int .u32 0)).setCell ⟨w.heap.size, 7, none⟩ (.int .u32 0)) = w3 at hv3 hk3 ⊢
  simp only [List.setIfInBounds_toArray, List.set_cons_succ, List.set_cons_zero] at hv3
  have d0 := hv3.cell 0
  have d1 := hv3.cell 1
  have d2 := hv3.cell 2
  have d3 := hv3.cell 3
  have d4 := hv3.cell 4
  have d5 := hv3.cell 5
  have d6 := hv3.cell 6
  have d7 := hv3.cell 7
  simp only [List.getElem?_toArray, List.getElem?_cons_zero, List.getElem?_cons_succ] at d0 d1 d2 d3 d4 d5 d6 d7
  exact bodyPost_ret (v := .tuple #[.agg #[.int .u32 0, .int .u32 0, .int .u32 0, .int .u32 0, .int .u32 0, .int .u32 0, .int .u32 0, .int .u32 0], .iface u x]) (by simp [results, Tryd.results43, go_sem, d0, d1, d2, d3, d4, d5, d6, d7]) rfl ⟨⟨u, x, rfl⟩, hk3⟩
end Go.Proofs.YtngnocfmagmpmaaDoor
