/- xcoff: each struct's read, printed by program (gen/gen_read.py) from the places in its text: where there are bytes enough, the struct's cells are the numbers of its fields; else an error. -/
import Derived.Test.YtpnnomoiapcojaaDoorFull
import Derived.Test.YtpnnomoiapcojaaDoorBeX
import Derived.Test.YtpnnomoiapcojaaDoorWindow
namespace Go.Proofs.YtpnnomoiapcojaaDoor
open Go.RowKit

set_option maxRecDepth 100000 in
set_option maxHeartbeats 1600000 in
theorem read_SymEnt32 (gr gv i c : Nat) (pv : Int) (A : Option Addr) (l : List UInt8) (w : World)
    (hv : Blk w gv 35 #[.int .u8 0, .int .u8 0, .int .u8 0, .int .u8 0, .int .u8 0, .int .u8 0, .int .u8 0, .int .u8 0, .int .u32 0, .int .u16 0, .int .u16 0, .int .u8 0, .int .u8 0])
    (hr : Blk w gr 85 #[.slice A l.length c, .int .i64 (i : Nat), .int .i64 pv]) (hb : Bs w A l) (hne : gr ≠ gv) (hA : ∀ b o, A = some ⟨b, o, none⟩ → b ≠ gr)
    (hi : i + 18 ≤ l.length) (hc : l.length ≤ c) (hm : c ≤ maxLen) :
    Calls Tryd.prog 49 #[.pointer (some ⟨gv, 0, none⟩), .iface 74 (.pointer (some ⟨gr, 0, none⟩)), .int .u8 1] w fun e w' =>
      e = .returned .nilIface ∧ Blk w' gv 35 #[.int .u8 (bev ((l.drop i).take 18) 0 1 : Nat), .int .u8 (bev ((l.drop i).take 18) 1 1 : Nat), .int .u8 (bev ((l.drop i).take 18) 2 1 : Nat), .int .u8 (bev ((l.drop i).take 18) 3 1 : Nat), .int .u8 (bev ((l.drop i).take 18) 4 1 : Nat), .int .u8 (bev ((l.drop i).take 18) 5 1 : Nat), .int .u8 (bev ((l.drop i).take 18) 6 1 : Nat), .int .u8 (bev ((l.drop i).take 18) 7 1 : Nat), .int .u32 (bev ((l.drop i).take 18) 8 4 : Nat), .int .u16 (bev ((l.drop i).take 18) 12 2 : Nat), .int .u16 (bev ((l.drop i).take 18) 14 2 : Nat), .int .u8 (bev ((l.drop i).take 18) 16 1 : Nat), .int .u8 (bev ((l.drop i).take 18) 17 1 : Nat)] ∧
      Blk w' gr 85 #[.slice A l.length c, .int .i64 (i + 18 : Nat), .int .i64 (-1)] ∧ Keeps (fun j => j = gv ∨ j = gr) w w' := by
  have hmk : ∀ w : World, (Instr.makeSlice 22 (.int .i64 18) (.int .i64 18)).run Tryd.prog w = .ok (.slice (some ⟨w.heap.size, 0, none⟩) 18 18) (w.alloc (.cells #[.int .u8 0, .int .u8 0, .int .u8 0, .int .u8 0, .int .u8 0, .int .u8 0, .int .u8 0, .int .u8 0, .int .u8 0, .int .u8 0, .int .u8 0, .int .u8 0, .int .u8 0, .int .u8 0, .int .u8 0, .int .u8 0, .int .u8 0, .int .u8 0] 5)) := fun _ => by kernel_rfl
  have hgr := hr.lt
  have hgv := hv.lt
  go_enter Tryd.func49, Tryd.ntmps49
  go_wp2_with fail
  refine (full_ok gr w.heap.size 18 i c 5 pv A l #[.int .u8 0, .int .u8 0, .int .u8 0, .int .u8 0, .int .u8 0, .int .u8 0, .int .u8 0, .int .u8 0, .int .u8 0, .int .u8 0, .int .u8 0, .int .u8 0, .int .u8 0, .int .u8 0, .int .u8 0, .int .u8 0, .int .u8 0, .int .u8 0] _ (hr.alloc _) (hb.alloc _) (Blk.new _ _ _) (by omega) hA hi (by omega) hc hm rfl).mono ?_
  rintro e w1 ⟨rfl, hg1, hr1, hK1'⟩
  have hv1 : Blk w1 gv 35 _ := (hv.alloc _).keeps hK1' (by omega)
  have hK1 : Keeps (fun j => j = gv ∨ j = gr) w w1 := ((Keeps.refl _ w).alloc _).step hK1' (fun j hj hT => by omega)
  have hql : ((l.drop i).take 18).length = 18 := by simp; omega
  clear hmk hr hb hv hK1'
  generalize hq : (l.drop i).take 18 = q at hg1 hql
  have HQ := Lib.hid hq
  have HL := Lib.hid hql
  clear hq hql
  generalize w.heap.size = gb at hg1 hgr hgv ⊢
  have ne1 : ¬ gv = gb := by omega
  have ne2 : ¬ gb = gv := by omega
  go_wp2_with fail
  refine wp_region_still_tail 6 (by kernel_rfl) (by kernel_rfl) ?_
  change wpStill _ _ w1.drew (fun a' => wpList _ _ _ _ a' w1.drew) _ _
  simp only [List.take_succ_cons, List.take_zero, List.drop_succ_cons, List.drop_zero]
  repeat still_step
  refine wpStill_nil ?_
  have hcopy := run_copy_bs (P := Tryd.prog) (w := w1.drew) 22 22 3 5 gv 0 8 8 (some ⟨gb, 0, none⟩) 8 18 (#[.int .u8 0, .int .u8 0, .int .u8 0, .int .u8 0, .int .u8 0, .int .u8 0, .int .u8 0, .int .u8 0, .int .u32 0, .int .u16 0, .int .u16 0, .int .u8 0, .int .u8 0] : Array Value) 35 (q.take 8) Tryd.underlying22 (by kernel_rfl) hv1 ((show Blk w1.drew gb 5 (bvs q).toArray from hg1).bs.take 8) (by rw [List.length_take, HL.out]; rfl) (by simp)
  have hv2 := setRow_heap w1.drew gv (#[.int .u8 0, .int .u8 0, .int .u8 0, .int .u8 0, .int .u8 0, .int .u8 0, .int .u8 0, .int .u8 0, .int .u32 0, .int .u16 0, .int .u16 0, .int .u8 0, .int .u8 0] : Array Value) ((#[.int .u8 0, .int .u8 0, .int .u8 0, .int .u8 0, .int .u8 0, .int .u8 0, .int .u8 0, .int .u8 0, .int .u32 0, .int .u16 0, .int .u16 0, .int .u8 0, .int .u8 0] : Array Value).toList.take 0 ++ bvs ((q.take 8).take 8) ++ (#[.int .u8 0, .int .u8 0, .int .u8 0, .int .u8 0, .int .u8 0, .int .u8 0, .int .u8 0, .int .u8 0, .int .u32 0, .int .u16 0, .int .u16 0, .int .u8 0, .int .u8 0] : Array Value).toList.drop (0 + Nat.min 8 8)).toArray 35 (0, 0) hv1
  have hg2 : Blk (w1.drew.setRow gv ((#[.int .u8 0, .int .u8 0, .int .u8 0, .int .u8 0, .int .u8 0, .int .u8 0, .int .u8 0, .int .u8 0, .int .u32 0, .int .u16 0, .int .u16 0, .int .u8 0, .int .u8 0] : Array Value).toList.take 0 ++ bvs ((q.take 8).take 8) ++ (#[.int .u8 0, .int .u8 0, .int .u8 0, .int .u8 0, .int .u8 0, .int .u8 0, .int .u8 0, .int .u8 0, .int .u32 0, .int .u16 0, .int .u16 0, .int .u8 0, .int .u8 0] : Array Value).toList.drop (0 + Nat.min 8 8)).toArray) gb 5 (bvs q).toArray := (setRow_other w1.drew gv gb ((#[.int .u8 0, .int .u8 0, .int .u8 0, .int .u8 0, .int .u8 0, .int .u8 0, .int .u8 0, .int .u8 0, .int .u32 0, .int .u16 0, .int .u16 0, .int .u8 0, .int .u8 0] : Array Value).toList.take 0 ++ bvs ((q.take 8).take 8) ++ (#[.int .u8 0, .int .u8 0, .int .u8 0, .int .u8 0, .int .u8 0, .int .u8 0, .int .u8 0, .int .u8 0, .int .u32 0, .int .u16 0, .int .u16 0, .int .u8 0, .int .u8 0] : Array Value).toList.drop (0 + Nat.min 8 8)).toArray ne2).trans hg1
  have hr2 : Blk (w1.drew.setRow gv ((#[.int .u8 0, .int .u8 0, .int .u8 0, .int .u8 0, .int .u8 0, .int .u8 0, .int .u8 0, .int .u8 0, .int .u32 0, .int .u16 0, .int .u16 0, .int .u8 0, .int .u8 0] : Array Value).toList.take 0 ++ bvs ((q.take 8).take 8) ++ (#[.int .u8 0, .int .u8 0, .int .u8 0, .int .u8 0, .int .u8 0, .int .u8 0, .int .u8 0, .int .u8 0, .int .u32 0, .int .u16 0, .int .u16 0, .int .u8 0, .int .u8 0] : Array Value).toList.drop (0 + Nat.min 8 8)).toArray) gr 85 #[.slice A l.length c, .int .i64 (i + 18 : Nat), .int .i64 (-1)] := (setRow_other w1.drew gv gr ((#[.int .u8 0, .int .u8 0, .int .u8 0, .int .u8 0, .int .u8 0, .int .u8 0, .int .u8 0, .int .u8 0, .int .u32 0, .int .u16 0, .int .u16 0, .int .u8 0, .int .u8 0] : Array Value).toList.take 0 ++ bvs ((q.take 8).take 8) ++ (#[.int .u8 0, .int .u8 0, .int .u8 0, .int .u8 0, .int .u8 0, .int .u8 0, .int .u8 0, .int .u8 0, .int .u32 0, .int .u16 0, .int .u16 0, .int .u8 0, .int .u8 0] : Array Value).toList.drop (0 + Nat.min 8 8)).toArray hne).trans hr1
  have hK2 : Keeps (fun j => j = gv ∨ j = gr) w (w1.drew.setRow gv ((#[.int .u8 0, .int .u8 0, .int .u8 0, .int .u8 0, .int .u8 0, .int .u8 0, .int .u8 0, .int .u8 0, .int .u32 0, .int .u16 0, .int .u16 0, .int .u8 0, .int .u8 0] : Array Value).toList.take 0 ++ bvs ((q.take 8).take 8) ++ (#[.int .u8 0, .int .u8 0, .int .u8 0, .int .u8 0, .int .u8 0, .int .u8 0, .int .u8 0, .int .u8 0, .int .u32 0, .int .u16 0, .int .u16 0, .int .u8 0, .int .u8 0] : Array Value).toList.drop (0 + Nat.min 8 8)).toArray) :=
    (hK1.drew).step (T := fun j => j = gv) ⟨rfl, rfl, rfl, by simp [World.setRow], fun j _ hj => setRow_other w1.drew gv j _ hj⟩ (fun j _ hj => .inl hj)
  generalize w1.drew.setRow gv ((#[.int .u8 0, .int .u8 0, .int .u8 0, .int .u8 0, .int .u8 0, .int .u8 0, .int .u8 0, .int .u8 0, .int .u32 0, .int .u16 0, .int .u16 0, .int .u8 0, .int .u8 0] : Array Value).toList.take 0 ++ bvs ((q.take 8).take 8) ++ (#[.int .u8 0, .int .u8 0, .int .u8 0, .int .u8 0, .int .u8 0, .int .u8 0, .int .u8 0, .int .u8 0, .int .u32 0, .int .u16 0, .int .u16 0, .int .u8 0, .int .u8 0] : Array Value).toList.drop (0 + Nat.min 8 8)).toArray = w2 at hcopy hv2 hg2 hr2 hK2
  have hv2 : Blk w2 gv 35 #[.int .u8 (bev q 0 1 : Nat), .int .u8 (bev q 1 1 : Nat), .int .u8 (bev q 2 1 : Nat), .int .u8 (bev q 3 1 : Nat), .int .u8 (bev q 4 1 : Nat), .int .u8 (bev q 5 1 : Nat), .int .u8 (bev q 6 1 : Nat), .int .u8 (bev q 7 1 : Nat), .int .u32 0, .int .u16 0, .int .u16 0, .int .u8 0, .int .u8 0] := by
    unfold Blk
    rw [hv2, List.take_take, eight_cells q (by rw [HL.out]; omega)]
    rfl
  clear hv1 hg1 hr1 hK1
  go_wp2_with (with_reducible refine wpList_copy_go _ rfl _ _ 22 22 rfl _ _ rfl rfl hcopy ?_)
  clear hcopy
  refine (u32_l gb 8 _ _ q 8 _ (by omega) (by omega) (hg2.stand HL.out 8 4 (by omega))).mono ?_
  rintro e wx ⟨rfl, k2, rfl⟩
  have c8 := hv2.cell 8
  have f8 := hv2.frozen 8
  simp only [List.getElem?_toArray, List.getElem?_cons_zero, List.getElem?_cons_succ] at c8
  go_wp2_with fail
  have hv3 := ((hv2.drewN k2).set_ 8 (.int .u32 (bev q 8 4 : Nat)))
  have hg3 := ((hg2.drewN k2).far (p := ⟨gv, 8, none⟩) ne2 (.int .u32 (bev q 8 4 : Nat)))
  have hr3 := ((hr2.drewN k2).far (p := ⟨gv, 8, none⟩) hne (.int .u32 (bev q 8 4 : Nat)))
  have hK3 := ((hK2.drewN k2).setCell (p := ⟨gv, 8, none⟩) (fun _ => .inl rfl) (.int .u32 (bev q 8 4 : Nat)))
  clear hv2 hg2 hr2 hK2 c8 f8
  generalize ((w2.drewN k2).setCell ⟨gv, 8, none⟩ (.int .u32 (bev q 8 4 : Nat))) = w3 at hv3 hg3 hr3 hK3 ⊢
  simp only [List.setIfInBounds_toArray, List.set_cons_succ, List.set_cons_zero] at hv3
  refine (u16_l gb 12 _ _ q 12 _ (by omega) (hg3.stand HL.out 12 2 (by omega))).mono ?_
  rintro e wx ⟨rfl, k3, rfl⟩
  have c9 := hv3.cell 9
  have f9 := hv3.frozen 9
  simp only [List.getElem?_toArray, List.getElem?_cons_zero, List.getElem?_cons_succ] at c9
  go_wp2_with fail
  have hv4 := ((hv3.drewN k3).set_ 9 (.int .u16 (bev q 12 2 : Nat)))
  have hg4 := ((hg3.drewN k3).far (p := ⟨gv, 9, none⟩) ne2 (.int .u16 (bev q 12 2 : Nat)))
  have hr4 := ((hr3.drewN k3).far (p := ⟨gv, 9, none⟩) hne (.int .u16 (bev q 12 2 : Nat)))
  have hK4 := ((hK3.drewN k3).setCell (p := ⟨gv, 9, none⟩) (fun _ => .inl rfl) (.int .u16 (bev q 12 2 : Nat)))
  clear hv3 hg3 hr3 hK3 c9 f9
  generalize ((w3.drewN k3).setCell ⟨gv, 9, none⟩ (.int .u16 (bev q 12 2 : Nat))) = w4 at hv4 hg4 hr4 hK4 ⊢
  simp only [List.setIfInBounds_toArray, List.set_cons_succ, List.set_cons_zero] at hv4
  refine (u16_l gb 14 _ _ q 14 _ (by omega) (hg4.stand HL.out 14 2 (by omega))).mono ?_
  rintro e wx ⟨rfl, k4, rfl⟩
  have c10 := hv4.cell 10
  have f10 := hv4.frozen 10
  simp only [List.getElem?_toArray, List.getElem?_cons_zero, List.getElem?_cons_succ] at c10
  have c11 := hv4.cell 11
  have f11 := hv4.frozen 11
  simp only [List.getElem?_toArray, List.getElem?_cons_zero, List.getElem?_cons_succ] at c11
  have b16 := hg4.byte_in HL.out 16 (by omega)
  have c12 := hv4.cell 12
  have f12 := hv4.frozen 12
  simp only [List.getElem?_toArray, List.getElem?_cons_zero, List.getElem?_cons_succ] at c12
  have b17 := hg4.byte_in HL.out 17 (by omega)
  go_wp2_with fail
  have hv5 := ((((hv4.drewN k4).set_ 10 (.int .u16 (bev q 14 2 : Nat))).set_ 11 (.int .u8 (bev q 16 1 : Nat))).set_ 12 (.int .u8 (bev q 17 1 : Nat)))
  have hg5 := ((((hg4.drewN k4).far (p := ⟨gv, 10, none⟩) ne2 (.int .u16 (bev q 14 2 : Nat))).far (p := ⟨gv, 11, none⟩) ne2 (.int .u8 (bev q 16 1 : Nat))).far (p := ⟨gv, 12, none⟩) ne2 (.int .u8 (bev q 17 1 : Nat)))
  have hr5 := ((((hr4.drewN k4).far (p := ⟨gv, 10, none⟩) hne (.int .u16 (bev q 14 2 : Nat))).far (p := ⟨gv, 11, none⟩) hne (.int .u8 (bev q 16 1 : Nat))).far (p := ⟨gv, 12, none⟩) hne (.int .u8 (bev q 17 1 : Nat)))
  have hK5 := ((((hK4.drewN k4).setCell (p := ⟨gv, 10, none⟩) (fun _ => .inl rfl) (.int .u16 (bev q 14 2 : Nat))).setCell (p := ⟨gv, 11, none⟩) (fun _ => .inl rfl) (.int .u8 (bev q 16 1 : Nat))).setCell (p := ⟨gv, 12, none⟩) (fun _ => .inl rfl) (.int .u8 (bev q 17 1 : Nat)))
  clear hv4 hg4 hr4 hK4 c10 f10 c11 f11 b16 c12 f12 b17
  generalize ((((w4.drewN k4).setCell ⟨gv, 10, none⟩ (.int .u16 (bev q 14 2 : Nat))).setCell ⟨gv, 11, none⟩ (.int .u8 (bev q 16 1 : Nat))).setCell ⟨gv, 12, none⟩ (.int .u8 (bev q 17 1 : Nat))) = w5 at hv5 hg5 hr5 hK5 ⊢
  simp only [List.setIfInBounds_toArray, List.set_cons_succ, List.set_cons_zero] at hv5
  go_ret
  rw [HQ.out]
  exact ⟨by simp, hv5, hr5, hK5⟩

set_option maxRecDepth 100000 in
theorem short_SymEnt32 (gr gv i c : Nat) (pv : Int) (A : Option Addr) (l : List UInt8) (w : World) (hE : Eofs w)
    (hv : Blk w gv 35 #[.int .u8 0, .int .u8 0, .int .u8 0, .int .u8 0, .int .u8 0, .int .u8 0, .int .u8 0, .int .u8 0, .int .u32 0, .int .u16 0, .int .u16 0, .int .u8 0, .int .u8 0])
    (hr : Blk w gr 85 #[.slice A l.length c, .int .i64 (i : Nat), .int .i64 pv]) (hb : Bs w A l) (hA : ∀ b o, A = some ⟨b, o, none⟩ → b ≠ gr)
    (hi : l.length < i + 18) (hc : l.length ≤ c) (hm : c ≤ maxLen) (h1 : ¬ 1 = gr) (h2 : ¬ 2 = gr) :
    Calls Tryd.prog 49 #[.pointer (some ⟨gv, 0, none⟩), .iface 74 (.pointer (some ⟨gr, 0, none⟩)), .int .u8 1] w fun e w' => (∃ u x, e = .returned (.iface u x)) ∧ Keeps (fun j => j = gr) w w' := by
  have hmk : ∀ w : World, (Instr.makeSlice 22 (.int .i64 18) (.int .i64 18)).run Tryd.prog w = .ok (.slice (some ⟨w.heap.size, 0, none⟩) 18 18) (w.alloc (.cells #[.int .u8 0, .int .u8 0, .int .u8 0, .int .u8 0, .int .u8 0, .int .u8 0, .int .u8 0, .int .u8 0, .int .u8 0, .int .u8 0, .int .u8 0, .int .u8 0, .int .u8 0, .int .u8 0, .int .u8 0, .int .u8 0, .int .u8 0, .int .u8 0] 5)) := fun _ => by kernel_rfl
  have hgr := hr.lt
  have hgv := hv.lt
  have hge : 1 < w.heap.size := by obtain ⟨a, ha⟩ := hE.eof; exact World.block_lt_of_cell? w _ ha
  have hgu : 2 < w.heap.size := by obtain ⟨a, ha⟩ := hE.unx; exact World.block_lt_of_cell? w _ ha
  go_enter Tryd.func49, Tryd.ntmps49
  go_wp2_with fail
  refine (full_short gr w.heap.size 18 i c 5 pv A l #[.int .u8 0, .int .u8 0, .int .u8 0, .int .u8 0, .int .u8 0, .int .u8 0, .int .u8 0, .int .u8 0, .int .u8 0, .int .u8 0, .int .u8 0, .int .u8 0, .int .u8 0, .int .u8 0, .int .u8 0, .int .u8 0, .int .u8 0, .int .u8 0] _ (hE.keep (Below.heap_alloc _ _ _ hge) (Below.heap_alloc _ _ _ hgu)) (hr.alloc _) (hb.alloc _) (Blk.new _ _ _) (by omega) hA hi (by omega) hc hm (by omega) rfl (by omega) (by omega)).mono ?_
  rintro e w1 ⟨⟨v, u, x, rfl⟩, hK1'⟩
  have hK1 : Keeps (fun j => j = gr) w w1 := ((Keeps.refl _ w).alloc _).step hK1' (fun j hj hT => by omega)
  clear hmk hr hb hv hK1' hE
  go_wp2_with fail
  go_ret
  exact ⟨⟨u, x, by simp⟩, hK1⟩
end Go.Proofs.YtpnnomoiapcojaaDoor
