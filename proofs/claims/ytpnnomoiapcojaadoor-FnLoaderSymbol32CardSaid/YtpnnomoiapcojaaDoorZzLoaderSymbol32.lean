/- xcoff.ZZLoaderSymbol32: the struct of a reader over bytes, printed by program (gen/gen_zz.py). -/
import Derived.Test.YtpnnomoiapcojaaDoorReadLoaderSymbol32
namespace Go.Proofs.YtpnnomoiapcojaaDoor
open Go.RowKit

set_option maxRecDepth 100000 in
set_option maxHeartbeats 1600000 in
theorem zz_LoaderSymbol32 (A : Option Addr) (l : List UInt8) (c : Nat) (w : World) (hb : Bs w A l) (hA : ∀ b o, A = some ⟨b, o, none⟩ → b < w.heap.size) (hi : 24 ≤ l.length) (hc : l.length ≤ c) (hm : c ≤ maxLen) :
    Calls Tryd.prog 40 #[.slice A l.length c] w fun e w' => e = .returned (.tuple #[.agg #[.int .u8 (bev l 0 1 : Nat), .int .u8 (bev l 1 1 : Nat), .int .u8 (bev l 2 1 : Nat), .int .u8 (bev l 3 1 : Nat), .int .u8 (bev l 4 1 : Nat), .int .u8 (bev l 5 1 : Nat), .int .u8 (bev l 6 1 : Nat), .int .u8 (bev l 7 1 : Nat), .int .u32 (bev l 8 4 : Nat), .int .u16 (bev l 12 2 : Nat), .int .u8 (bev l 14 1 : Nat), .int .u8 (bev l 15 1 : Nat), .int .u32 (bev l 16 4 : Nat), .int .u32 (bev l 20 4 : Nat)], .nilIface]) ∧ Below w.heap.size w w' := by
  go_enter Tryd.func40, Tryd.ntmps40
  go_wp2_with fail
  refine (newReader_any A l.length c _).mono ?_
  rintro e w1 ⟨rfl, rfl⟩
  go_wp2_with fail
  refine (read_LoaderSymbol32 (w.heap.size + 1) w.heap.size 0 c (-1) A l _ ((Blk.new w _ _).alloc _) (Blk.at_ _ _ _ (by simp)) ((hb.alloc _).alloc _) (by omega) (fun b o h => by have := hA b o h; omega) (by omega) hc hm).mono ?_
  rintro e w2 ⟨rfl, hv, _, hK⟩
  rw [List.drop_zero, bev_take l 24 0 1 (by omega), bev_take l 24 1 1 (by omega), bev_take l 24 2 1 (by omega), bev_take l 24 3 1 (by omega), bev_take l 24 4 1 (by omega), bev_take l 24 5 1 (by omega), bev_take l 24 6 1 (by omega), bev_take l 24 7 1 (by omega), bev_take l 24 8 4 (by omega), bev_take l 24 12 2 (by omega), bev_take l 24 14 1 (by omega), bev_take l 24 15 1 (by omega), bev_take l 24 16 4 (by omega), bev_take l 24 20 4 (by omega)] at hv
  have hkeep : Below w.heap.size w w2 := (((Below.refl _ _).alloc (Nat.le_refl _) _).alloc (by simp) _).trans (hK.below (by simp; omega) (fun i h => by omega))
  clear hb hA hK
  have c0 := hv.cell 0
  have f0 := hv.frozen 0
  have c1 := hv.cell 1
  have f1 := hv.frozen 1
  have c2 := hv.cell 2
  have f2 := hv.frozen 2
  have c3 := hv.cell 3
  have f3 := hv.frozen 3
  have c4 := hv.cell 4
  have f4 := hv.frozen 4
  have c5 := hv.cell 5
  have f5 := hv.frozen 5
  have c6 := hv.cell 6
  have f6 := hv.frozen 6
  have c7 := hv.cell 7
  have f7 := hv.frozen 7
  have c8 := hv.cell 8
  have f8 := hv.frozen 8
  have c9 := hv.cell 9
  have f9 := hv.frozen 9
  have c10 := hv.cell 10
  have f10 := hv.frozen 10
  have c11 := hv.cell 11
  have f11 := hv.frozen 11
  have c12 := hv.cell 12
  have f12 := hv.frozen 12
  have c13 := hv.cell 13
  have f13 := hv.frozen 13
  simp only [List.getElem?_toArray, List.getElem?_cons_zero, List.getElem?_cons_succ] at c0 c1 c2 c3 c4 c5 c6 c7 c8 c9 c10 c11 c12 c13
  go_wp2_with fail
  have hv3 := ((((((((((((((hv.set_ 0 (.int .u8 (bev l 0 1 : Nat))).set_ 1 (.int .u8 (bev l 1 1 : Nat))).set_ 2 (.int .u8 (bev l 2 1 : Nat))).set_ 3 (.int .u8 (bev l 3 1 : Nat))).set_ 4 (.int .u8 (bev l 4 1 : Nat))).set_ 5 (.int .u8 (bev l 5 1 : Nat))).set_ 6 (.int .u8 (bev l 6 1 : Nat))).set_ 7 (.int .u8 (bev l 7 1 : Nat))).set_ 8 (.int .u32 (bev l 8 4 : Nat))).set_ 9 (.int .u16 (bev l 12 2 : Nat))).set_ 10 (.int .u8 (bev l 14 1 : Nat))).set_ 11 (.int .u8 (bev l 15 1 : Nat))).set_ 12 (.int .u32 (bev l 16 4 : Nat))).set_ 13 (.int .u32 (bev l 20 4 : Nat)))
  have hk3 : Below w.heap.size w _ := ((((((((((((((hkeep.setCell (p := ⟨w.heap.size, 0, none⟩) (Nat.le_refl _) (.int .u8 (bev l 0 1 : Nat))).setCell (p := ⟨w.heap.size, 1, none⟩) (Nat.le_refl _) (.int .u8 (bev l 1 1 : Nat))).setCell (p := ⟨w.heap.size, 2, none⟩) (Nat.le_refl _) (.int .u8 (bev l 2 1 : Nat))).setCell (p := ⟨w.heap.size, 3, none⟩) (Nat.le_refl _) (.int .u8 (bev l 3 1 : Nat))).setCell (p := ⟨w.heap.size, 4, none⟩) (Nat.le_refl _) (.int .u8 (bev l 4 1 : Nat))).setCell (p := ⟨w.heap.size, 5, none⟩) (Nat.le_refl _) (.int .u8 (bev l 5 1 : Nat))).setCell (p := ⟨w.heap.size, 6, none⟩) (Nat.le_refl _) (.int .u8 (bev l 6 1 : Nat))).setCell (p := ⟨w.heap.size, 7, none⟩) (Nat.le_refl _) (.int .u8 (bev l 7 1 : Nat))).setCell (p := ⟨w.heap.size, 8, none⟩) (Nat.le_refl _) (.int .u32 (bev l 8 4 : Nat))).setCell (p := ⟨w.heap.size, 9, none⟩) (Nat.le_refl _) (.int .u16 (bev l 12 2 : Nat))).setCell (p := ⟨w.heap.size, 10, none⟩) (Nat.le_refl _) (.int .u8 (bev l 14 1 : Nat))).setCell (p := ⟨w.heap.size, 11, none⟩) (Nat.le_refl _) (.int .u8 (bev l 15 1 : Nat))).setCell (p := ⟨w.heap.size, 12, none⟩) (Nat.le_refl _) (.int .u32 (bev l 16 4 : Nat))).setCell (p := ⟨w.heap.size, 13, none⟩) (Nat.le_refl _) (.int .u32 (bev l 20 4 : Nat)))
  generalize ((((((((((((((w2.setCell ⟨w.heap.size, 0, none⟩ (.int .u8 (bev l 0 1 : Nat))).setCell ⟨w.heap.size, 1, none⟩ (.int .u8 (bev l 1 1 : Nat))).setCell ⟨w.heap.size, 2, none⟩ (.int .u8 (bev l 2 1 : Nat))).setCell ⟨w.heap.size, 3, none⟩ (.int .u8 (bev l 3 1 : Nat))).setCell ⟨w.heap.size, 4, none⟩ (.int .u8 (bev l 4 1 : Nat))).setCell ⟨w.heap.size, 5, none⟩ (.int .u8 (bev l 5 1 : Nat))).setCell ⟨w.heap.size, 6, none⟩ (.int .u8 (bev l 6 1 : Nat))).setCell ⟨w.heap.size, 7, none⟩ (.int .u8 (bev l 7 1 : Nat))).setCell ⟨w.heap.size, 8, none⟩ (.int .u32 (bev l 8 4 : Nat))).setCell ⟨w.heap.size, 9, none⟩ (.int .u16 (bev l 12 2 : Nat))).setCell ⟨w.heap.size, 10, none⟩ (.int .u8 (bev l 14 1 : Nat))).setCell ⟨w.heap.size, 11, none⟩ (.int .u8 (bev l 15 1 : Nat))).setCell ⟨w.heap.size, 12, none⟩ (.int .u32 (bev l 16 4 : Nat))).setCell ⟨w.heap.size, 13, none⟩ (.int .u32 (bev l 20 4 : Nat))) = w3 at hv3 hk3 ⊢
  simp only [List.setIfInBounds_toArray, List.set_cons_succ, List.set_cons_zero] at hv3
  have d0 := hv3.cell 0
  have d1 := hv3.cell 1
  have d2 := hv3.cell 2
  have d3 := hv3.cell 3
  have d4 := hv3.cell 4
  have d5 := hv3.cell 5
  have d6 := hv3.cell 6
  have d7 := hv3.cell 7
  have d8 := hv3.cell 8
  have d9 := hv3.cell 9
  have d10 := hv3.cell 10
  have d11 := hv3.cell 11
  have d12 := hv3.cell 12
  have d13 := hv3.cell 13
  simp only [List.getElem?_toArray, List.getElem?_cons_zero, List.getElem?_cons_succ] at d0 d1 d2 d3 d4 d5 d6 d7 d8 d9 d10 d11 d12 d13
  exact bodyPost_ret (v := .tuple #[.agg #[.int .u8 (bev l 0 1 : Nat), .int .u8 (bev l 1 1 : Nat), .int .u8 (bev l 2 1 : Nat), .int .u8 (bev l 3 1 : Nat), .int .u8 (bev l 4 1 : Nat), .int .u8 (bev l 5 1 : Nat), .int .u8 (bev l 6 1 : Nat), .int .u8 (bev l 7 1 : Nat), .int .u32 (bev l 8 4 : Nat), .int .u16 (bev l 12 2 : Nat), .int .u8 (bev l 14 1 : Nat), .int .u8 (bev l 15 1 : Nat), .int .u32 (bev l 16 4 : Nat), .int .u32 (bev l 20 4 : Nat)], .nilIface]) (by simp [results, Tryd.results40, go_sem, d0, d1, d2, d3, d4, d5, d6, d7, d8, d9, d10, d11, d12, d13]) rfl ⟨rfl, hk3⟩

set_option maxRecDepth 100000 in
set_option maxHeartbeats 1600000 in
theorem zzs_LoaderSymbol32 (A : Option Addr) (l : List UInt8) (c : Nat) (w : World) (hE : Eofs w) (hb : Bs w A l) (hA : ∀ b o, A = some ⟨b, o, none⟩ → b < w.heap.size) (hi : l.length < 24) (hc : l.length ≤ c) (hm : c ≤ maxLen) :
    Calls Tryd.prog 40 #[.slice A l.length c] w fun e w' => (∃ u x, e = .returned (.tuple #[.agg #[.int .u8 0, .int .u8 0, .int .u8 0, .int .u8 0, .int .u8 0, .int .u8 0, .int .u8 0, .int .u8 0, .int .u32 0, .int .u16 0, .int .u8 0, .int .u8 0, .int .u32 0, .int .u32 0], .iface u x])) ∧ Below w.heap.size w w' := by
  have hge : 1 < w.heap.size := by obtain ⟨a, ha⟩ := hE.eof; exact World.block_lt_of_cell? w _ ha
  have hgu : 2 < w.heap.size := by obtain ⟨a, ha⟩ := hE.unx; exact World.block_lt_of_cell? w _ ha
  go_enter Tryd.func40, Tryd.ntmps40
  go_wp2_with fail
  refine (newReader_any A l.length c _).mono ?_
  rintro e w1 ⟨rfl, rfl⟩
  go_wp2_with fail
  refine (short_LoaderSymbol32 (w.heap.size + 1) w.heap.size 0 c (-1) A l _ (hE.keep ((Below.heap_alloc _ _ _ (by simp; omega)).trans (Below.heap_alloc _ _ _ hge)) ((Below.heap_alloc _ _ _ (by simp; omega)).trans (Below.heap_alloc _ _ _ hgu))) ((Blk.new w _ _).alloc _) (Blk.at_ _ _ _ (by simp)) ((hb.alloc _).alloc _) (fun b o h => by have := hA b o h; omega) (by omega) hc hm (by omega) (by omega)).mono ?_
  rintro e w2 ⟨⟨u, x, rfl⟩, hK⟩
  have hv : Blk w2 w.heap.size 54 _ := ((Blk.new w _ _).alloc _).keeps hK (by omega)
  have hkeep : Below w.heap.size w w2 := (((Below.refl _ _).alloc (Nat.le_refl _) _).alloc (by simp) _).trans (hK.below (by simp; omega) (fun i h => by omega))
  clear hb hA hK hE
  have c0 := hv.cell 0
  have f0 := hv.frozen 0
  have c1 := hv.cell 1
  have f1 := hv.frozen 1
  have c2 := hv.cell 2
  have f2 := hv.frozen 2
  have c3 := hv.cell 3
  have f3 := hv.frozen 3
  have c4 := hv.cell 4
  have f4 := hv.frozen 4
  have c5 := hv.cell 5
  have f5 := hv.frozen 5
  have c6 := hv.cell 6
  have f6 := hv.frozen 6
  have c7 := hv.cell 7
  have f7 := hv.frozen 7
  have c8 := hv.cell 8
  have f8 := hv.frozen 8
  have c9 := hv.cell 9
  have f9 := hv.frozen 9
  have c10 := hv.cell 10
  have f10 := hv.frozen 10
  have c11 := hv.cell 11
  have f11 := hv.frozen 11
  have c12 := hv.cell 12
  have f12 := hv.frozen 12
  have c13 := hv.cell 13
  have f13 := hv.frozen 13
  simp only [List.getElem?_toArray, List.getElem?_cons_zero, List.getElem?_cons_succ] at c0 c1 c2 c3 c4 c5 c6 c7 c8 c9 c10 c11 c12 c13
  go_wp2_with fail
  have hv3 := ((((((((((((((hv.set_ 0 (.int .u8 0)).set_ 1 (.int .u8 0)).set_ 2 (.int .u8 0)).set_ 3 (.int .u8 0)).set_ 4 (.int .u8 0)).set_ 5 (.int .u8 0)).set_ 6 (.int .u8 0)).set_ 7 (.int .u8 0)).set_ 8 (.int .u32 0)).set_ 9 (.int .u16 0)).set_ 10 (.int .u8 0)).set_ 11 (.int .u8 0)).set_ 12 (.int .u32 0)).set_ 13 (.int .u32 0))
  have hk3 : Below w.heap.size w _ := ((((((((((((((hkeep.setCell (p := ⟨w.heap.size, 0, none⟩) (Nat.le_refl _) (.int .u8 0)).setCell (p := ⟨w.heap.size, 1, none⟩) (Nat.le_refl _) (.int .u8 0)).setCell (p := ⟨w.heap.size, 2, none⟩) (Nat.le_refl _) (.int .u8 0)).setCell (p := ⟨w.heap.size, 3, none⟩) (Nat.le_refl _) (.int .u8 0)).setCell (p := ⟨w.heap.size, 4, none⟩) (Nat.le_refl _) (.int .u8 0)).setCell (p := ⟨w.heap.size, 5, none⟩) (Nat.le_refl _) (.int .u8 0)).setCell (p := ⟨w.heap.size, 6, none⟩) (Nat.le_refl _) (.int .u8 0)).setCell (p := ⟨w.heap.size, 7, none⟩) (Nat.le_refl _) (.int .u8 0)).setCell (p := ⟨w.heap.size, 8, none⟩) (Nat.le_refl _) (.int .u32 0)).setCell (p := ⟨w.heap.size, 9, none⟩) (Nat.le_refl _) (.int .u16 0)).setCell (p := ⟨w.heap.size, 10, none⟩) (Nat.le_refl _) (.int .u8 0)).setCell (p := ⟨w.heap.size, 11, none⟩) (Nat.le_refl _) (.int .u8 0)).setCell (p := ⟨w.heap.size, 12, none⟩) (Nat.le_refl _) (.int .u32 0)).setCell (p := ⟨w.heap.size, 13, none⟩) (Nat.le_refl _) (.int .u32 0))
  generalize ((((((((((((((w2.setCell ⟨w.heap.size, 0, none⟩ (.int .u8 0)).setCell ⟨w.heap.size, 1, none⟩ (.int .u8 0)).setCell ⟨w.heap.size, 2, none⟩ (.int .u8 0)).setCell ⟨w.heap.size, 3, none⟩ (.int .u8 0)).setCell ⟨w.heap.size, 4, none⟩ (.int .u8 0)).setCell ⟨w.heap.size, 5, none⟩ (.int .u8 0)).setCell ⟨w.heap.size, 6, none⟩ (.int .u8 0)).setCell ⟨w.heap.size, 7, none⟩ (.int .u8 0)).setCell ⟨w.heap.size, 8, none⟩ (.int .u32 0)).setCell ⟨w.heap.size, 9, none⟩ (.int .u16 0)).setCell ⟨w.heap.size, 10, none⟩ (.int .u8 0)).setCell ⟨w.heap.size, 11, none⟩ (.int .u8 0)).setCell ⟨w.heap.size, 12, none⟩ (.int .u32 0)).setCell ⟨w.heap.size, 13, none⟩ (.int .u32 0)) = w3 at hv3 hk3 ⊢
  simp only [List.setIfInBounds_toArray, List.set_cons_succ, List.set_cons_zero] at hv3
  have d0 := hv3.cell 0
  have d1 := hv3.cell 1
  have d2 := hv3.cell 2
  have d3 := hv3.cell 3
  have d4 := hv3.cell 4
  have d5 := hv3.cell 5
  have d6 := hv3.cell 6
  have d7 := hv3.cell 7
  have d8 := hv3.cell 8
  have d9 := hv3.cell 9
  have d10 := hv3.cell 10
  have d11 := hv3.cell 11
  have d12 := hv3.cell 12
  have d13 := hv3.cell 13
  simp only [List.getElem?_toArray, List.getElem?_cons_zero, List.getElem?_cons_succ] at d0 d1 d2 d3 d4 d5 d6 d7 d8 d9 d10 d11 d12 d13
  exact bodyPost_ret (v := .tuple #[.agg #[.int .u8 0, .int .u8 0, .int .u8 0, .int .u8 0, .int .u8 0, .int .u8 0, .int .u8 0, .int .u8 0, .int .u32 0, .int .u16 0, .int .u8 0, .int .u8 0, .int .u32 0, .int .u32 0], .iface u x]) (by simp [results, Tryd.results40, go_sem, d0, d1, d2, d3, d4, d5, d6, d7, d8, d9, d10, d11, d12, d13]) rfl ⟨⟨u, x, rfl⟩, hk3⟩
end Go.Proofs.YtpnnomoiapcojaaDoor
