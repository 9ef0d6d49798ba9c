/- xcoff: each struct's read, printed by program (gen/gen_read.py) from the places in its text: where there are bytes enough, the struct's cells are the numbers of its fields; else an error. -/
import Derived.Test.YtjjpjobkdipahaaDoorFull
import Derived.Test.YtjjpjobkdipahaaDoorBeX
import Derived.Test.YtjjpjobkdipahaaDoorWindow
namespace Go.Proofs.YtjjpjobkdipahaaDoor
open Go.RowKit

set_option maxRecDepth 100000 in
set_option maxHeartbeats 1600000 in
theorem read_SectionHeader64 (gr gv i c : Nat) (pv : Int) (A : Option Addr) (l : List UInt8) (w : World)
    (hv : Blk w gv 46 #[.int .u8 0, .int .u8 0, .int .u8 0, .int .u8 0, .int .u8 0, .int .u8 0, .int .u8 0, .int .u8 0, .int .u64 0, .int .u64 0, .int .u64 0, .int .u64 0, .int .u64 0, .int .u64 0, .int .u32 0, .int .u32 0, .int .u32 0, .int .u32 0])
    (hr : Blk w gr 61 #[.slice A l.length c, .int .i64 (i : Nat), .int .i64 pv]) (hb : Bs w A l) (hne : gr ≠ gv) (hA : ∀ b o, A = some ⟨b, o, none⟩ → b ≠ gr)
    (hi : i + 72 ≤ l.length) (hc : l.length ≤ c) (hm : c ≤ maxLen) :
    Calls Tryd.prog 21 #[.pointer (some ⟨gv, 0, none⟩), .iface 50 (.pointer (some ⟨gr, 0, none⟩)), .int .u8 1] w fun e w' =>
      e = .returned .nilIface ∧ Blk w' gv 46 #[.int .u8 (bev ((l.drop i).take 72) 0 1 : Nat), .int .u8 (bev ((l.drop i).take 72) 1 1 : Nat), .int .u8 (bev ((l.drop i).take 72) 2 1 : Nat), .int .u8 (bev ((l.drop i).take 72) 3 1 : Nat), .int .u8 (bev ((l.drop i).take 72) 4 1 : Nat), .int .u8 (bev ((l.drop i).take 72) 5 1 : Nat), .int .u8 (bev ((l.drop i).take 72) 6 1 : Nat), .int .u8 (bev ((l.drop i).take 72) 7 1 : Nat), .int .u64 (bev ((l.drop i).take 72) 8 8 : Nat), .int .u64 (bev ((l.drop i).take 72) 16 8 : Nat), .int .u64 (bev ((l.drop i).take 72) 24 8 : Nat), .int .u64 (bev ((l.drop i).take 72) 32 8 : Nat), .int .u64 (bev ((l.drop i).take 72) 40 8 : Nat), .int .u64 (bev ((l.drop i).take 72) 48 8 : Nat), .int .u32 (bev ((l.drop i).take 72) 56 4 : Nat), .int .u32 (bev ((l.drop i).take 72) 60 4 : Nat), .int .u32 (bev ((l.drop i).take 72) 64 4 : Nat), .int .u32 (bev ((l.drop i).take 72) 68 4 : Nat)] ∧
      Blk w' gr 61 #[.slice A l.length c, .int .i64 (i + 72 : Nat), .int .i64 (-1)] ∧ Keeps (fun j => j = gv ∨ j = gr) w w' := by
  have hmk : ∀ w : World, (Instr.makeSlice 22 (.int .i64 72) (.int .i64 72)).run Tryd.prog w = .ok (.slice (some ⟨w.heap.size, 0, none⟩) 72 72) (w.alloc (.cells #[.int .u8 0, .int .u8 0, .int .u8 0, .int .u8 0, .int .u8 0, .int .u8 0, .int .u8 0, .int .u8 0, .int .u8 0, .int .u8 0, .int .u8 0, .int .u8 0, .int .u8 0, .int .u8 0, .int .u8 0, .int .u8 0, .int .u8 0, .int .u8 0, .int .u8 0, .int .u8 0, .int .u8 0, .int .u8 0, .int .u8 0, .int .u8 0, .int .u8 0, .int .u8 0, .int .u8 0, .int .u8 0, .int .u8 0, .int .u8 0, .int .u8 0, .int .u8 0, .int .u8 0, .int .u8 0, .int .u8 0, .int .u8 0, .int .u8 0, .int .u8 0, .int .u8 0, .int .u8 0, .int .u8 0, .int .u8 0, .int .u8 0, .int .u8 0, .int .u8 0, .int .u8 0, .int .u8 0, .int .u8 0, .int .u8 0, .int .u8 0, .int .u8 0, .int .u8 0, .int .u8 0, .int .u8 0, .int .u8 0, .int .u8 0, .int .u8 0, .int .u8 0, .int .u8 0, .int .u8 0, .int .u8 0, .int .u8 0, .int .u8 0, .int .u8 0, .int .u8 0, .int .u8 0, .int .u8 0, .int .u8 0, .int .u8 0, .int .u8 0, .int .u8 0, .int .u8 0] 5)) := fun _ => by kernel_rfl
  have hgr := hr.lt
  have hgv := hv.lt
  go_enter Tryd.func21, Tryd.ntmps21
  go_wp2_with fail
  refine (full_ok gr w.heap.size 72 i c 5 pv A l #[.int .u8 0, .int .u8 0, .int .u8 0, .int .u8 0, .int .u8 0, .int .u8 0, .int .u8 0, .int .u8 0, .int .u8 0, .int .u8 0, .int .u8 0, .int .u8 0, .int .u8 0, .int .u8 0, .int .u8 0, .int .u8 0, .int .u8 0, .int .u8 0, .int .u8 0, .int .u8 0, .int .u8 0, .int .u8 0, .int .u8 0, .int .u8 0, .int .u8 0, .int .u8 0, .int .u8 0, .int .u8 0, .int .u8 0, .int .u8 0, .int .u8 0, .int .u8 0, .int .u8 0, .int .u8 0, .int .u8 0, .int .u8 0, .int .u8 0, .int .u8 0, .int .u8 0, .int .u8 0, .int .u8 0, .int .u8 0, .int .u8 0, .int .u8 0, .int .u8 0, .int .u8 0, .int .u8 0, .int .u8 0, .int .u8 0, .int .u8 0, .int .u8 0, .int .u8 0, .int .u8 0, .int .u8 0, .int .u8 0, .int .u8 0, .int .u8 0, .int .u8 0, .int .u8 0, .int .u8 0, .int .u8 0, .int .u8 0, .int .u8 0, .int .u8 0, .int .u8 0, .int .u8 0, .int .u8 0, .int .u8 0, .int .u8 0, .int .u8 0, .int .u8 0, .int .u8 0] _ (hr.alloc _) (hb.alloc _) (Blk.new _ _ _) (by omega) hA hi (by omega) hc hm rfl).mono ?_
  rintro e w1 ⟨rfl, hg1, hr1, hK1'⟩
  have hv1 : Blk w1 gv 46 _ := (hv.alloc _).keeps hK1' (by omega)
  have hK1 : Keeps (fun j => j = gv ∨ j = gr) w w1 := ((Keeps.refl _ w).alloc _).step hK1' (fun j hj hT => by omega)
  have hql : ((l.drop i).take 72).length = 72 := by simp; omega
  clear hmk hr hb hv hK1'
  generalize hq : (l.drop i).take 72 = q at hg1 hql
  have HQ := Lib.hid hq
  have HL := Lib.hid hql
  clear hq hql
  generalize w.heap.size = gb at hg1 hgr hgv ⊢
  have ne1 : ¬ gv = gb := by omega
  have ne2 : ¬ gb = gv := by omega
  go_wp2_with fail
  refine wp_region_still_tail 6 (by kernel_rfl) (by kernel_rfl) ?_
  change wpStill _ _ w1.drew (fun a' => wpList _ _ _ _ a' w1.drew) _ _
  simp only [List.take_succ_cons, List.take_zero, List.drop_succ_cons, List.drop_zero]
  repeat still_step
  refine wpStill_nil ?_
  have hcopy := run_copy_bs (P := Tryd.prog) (w := w1.drew) 22 22 3 5 gv 0 8 8 (some ⟨gb, 0, none⟩) 8 72 (#[.int .u8 0, .int .u8 0, .int .u8 0, .int .u8 0, .int .u8 0, .int .u8 0, .int .u8 0, .int .u8 0, .int .u64 0, .int .u64 0, .int .u64 0, .int .u64 0, .int .u64 0, .int .u64 0, .int .u32 0, .int .u32 0, .int .u32 0, .int .u32 0] : Array Value) 46 (q.take 8) Tryd.underlying22 (by kernel_rfl) hv1 ((show Blk w1.drew gb 5 (bvs q).toArray from hg1).bs.take 8) (by rw [List.length_take, HL.out]; rfl) (by simp)
  have hv2 := setRow_heap w1.drew gv (#[.int .u8 0, .int .u8 0, .int .u8 0, .int .u8 0, .int .u8 0, .int .u8 0, .int .u8 0, .int .u8 0, .int .u64 0, .int .u64 0, .int .u64 0, .int .u64 0, .int .u64 0, .int .u64 0, .int .u32 0, .int .u32 0, .int .u32 0, .int .u32 0] : Array Value) ((#[.int .u8 0, .int .u8 0, .int .u8 0, .int .u8 0, .int .u8 0, .int .u8 0, .int .u8 0, .int .u8 0, .int .u64 0, .int .u64 0, .int .u64 0, .int .u64 0, .int .u64 0, .int .u64 0, .int .u32 0, .int .u32 0, .int .u32 0, .int .u32 0] : Array Value).toList.take 0 ++ bvs ((q.take 8).take 8) ++ (#[.int .u8 0, .int .u8 0, .int .u8 0, .int .u8 0, .int .u8 0, .int .u8 0, .int .u8 0, .int .u8 0, .int .u64 0, .int .u64 0, .int .u64 0, .int .u64 0, .int .u64 0, .int .u64 0, .int .u32 0, .int .u32 0, .int .u32 0, .int .u32 0] : Array Value).toList.drop (0 + Nat.min 8 8)).toArray 46 (0, 0) hv1
  have hg2 : Blk (w1.drew.setRow gv ((#[.int .u8 0, .int .u8 0, .int .u8 0, .int .u8 0, .int .u8 0, .int .u8 0, .int .u8 0, .int .u8 0, .int .u64 0, .int .u64 0, .int .u64 0, .int .u64 0, .int .u64 0, .int .u64 0, .int .u32 0, .int .u32 0, .int .u32 0, .int .u32 0] : Array Value).toList.take 0 ++ bvs ((q.take 8).take 8) ++ (#[.int .u8 0, .int .u8 0, .int .u8 0, .int .u8 0, .int .u8 0, .int .u8 0, .int .u8 0, .int .u8 0, .int .u64 0, .int .u64 0, .int .u64 0, .int .u64 0, .int .u64 0, .int .u64 0, .int .u32 0, .int .u32 0, .int .u32 0, .int .u32 0] : Array Value).toList.drop (0 + Nat.min 8 8)).toArray) gb 5 (bvs q).toArray := (setRow_other w1.drew gv gb ((#[.int .u8 0, .int .u8 0, .int .u8 0, .int .u8 0, .int .u8 0, .int .u8 0, .int .u8 0, .int .u8 0, .int .u64 0, .int .u64 0, .int .u64 0, .int .u64 0, .int .u64 0, .int .u64 0, .int .u32 0, .int .u32 0, .int .u32 0, .int .u32 0] : Array Value).toList.take 0 ++ bvs ((q.take 8).take 8) ++ (#[.int .u8 0, .int .u8 0, .int .u8 0, .int .u8 0, .int .u8 0, .int .u8 0, .int .u8 0, .int .u8 0, .int .u64 0, .int .u64 0, .int .u64 0, .int .u64 0, .int .u64 0, .int .u64 0, .int .u32 0, .int .u32 0, .int .u32 0, .int .u32 0] : Array Value).toList.drop (0 + Nat.min 8 8)).toArray ne2).trans hg1
  have hr2 : Blk (w1.drew.setRow gv ((#[.int .u8 0, .int .u8 0, .int .u8 0, .int .u8 0, .int .u8 0, .int .u8 0, .int .u8 0, .int .u8 0, .int .u64 0, .int .u64 0, .int .u64 0, .int .u64 0, .int .u64 0, .int .u64 0, .int .u32 0, .int .u32 0, .int .u32 0, .int .u32 0] : Array Value).toList.take 0 ++ bvs ((q.take 8).take 8) ++ (#[.int .u8 0, .int .u8 0, .int .u8 0, .int .u8 0, .int .u8 0, .int .u8 0, .int .u8 0, .int .u8 0, .int .u64 0, .int .u64 0, .int .u64 0, .int .u64 0, .int .u64 0, .int .u64 0, .int .u32 0, .int .u32 0, .int .u32 0, .int .u32 0] : Array Value).toList.drop (0 + Nat.min 8 8)).toArray) gr 61 #[.slice A l.length c, .int .i64 (i + 72 : Nat), .int .i64 (-1)] := (setRow_other w1.drew gv gr ((#[.int .u8 0, .int .u8 0, .int .u8 0, .int .u8 0, .int .u8 0, .int .u8 0, .int .u8 0, .int .u8 0, .int .u64 0, .int .u64 0, .int .u64 0, .int .u64 0, .int .u64 0, .int .u64 0, .int .u32 0, .int .u32 0, .int .u32 0, .int .u32 0] : Array Value).toList.take 0 ++ bvs ((q.take 8).take 8) ++ (#[.int .u8 0, .int .u8 0, .int .u8 0, .int .u8 0, .int .u8 0, .int .u8 0, .int .u8 0, .int .u8 0, .int .u64 0, .int .u64 0, .int .u64 0, .int .u64 0, .int .u64 0, .int .u64 0, .int .u32 0, .int .u32 0, .int .u32 0, .int .u32 0] : Array Value).toList.drop (0 + Nat.min 8 8)).toArray hne).trans hr1
  have hK2 : Keeps (fun j => j = gv ∨ j = gr) w (w1.drew.setRow gv ((#[.int .u8 0, .int .u8 0, .int .u8 0, .int .u8 0, .int .u8 0, .int .u8 0, .int .u8 0, .int .u8 0, .int .u64 0, .int .u64 0, .int .u64 0, .int .u64 0, .int .u64 0, .int .u64 0, .int .u32 0, .int .u32 0, .int .u32 0, .int .u32 0] : Array Value).toList.take 0 ++ bvs ((q.take 8).take 8) ++ (#[.int .u8 0, .int .u8 0, .int .u8 0, .int .u8 0, .int .u8 0, .int .u8 0, .int .u8 0, .int .u8 0, .int .u64 0, .int .u64 0, .int .u64 0, .int .u64 0, .int .u64 0, .int .u64 0, .int .u32 0, .int .u32 0, .int .u32 0, .int .u32 0] : Array Value).toList.drop (0 + Nat.min 8 8)).toArray) :=
    (hK1.drew).step (T := fun j => j = gv) ⟨rfl, rfl, rfl, by simp [World.setRow], fun j _ hj => setRow_other w1.drew gv j _ hj⟩ (fun j _ hj => .inl hj)
  generalize w1.drew.setRow gv ((#[.int .u8 0, .int .u8 0, .int .u8 0, .int .u8 0, .int .u8 0, .int .u8 0, .int .u8 0, .int .u8 0, .int .u64 0, .int .u64 0, .int .u64 0, .int .u64 0, .int .u64 0, .int .u64 0, .int .u32 0, .int .u32 0, .int .u32 0, .int .u32 0] : Array Value).toList.take 0 ++ bvs ((q.take 8).take 8) ++ (#[.int .u8 0, .int .u8 0, .int .u8 0, .int .u8 0, .int .u8 0, .int .u8 0, .int .u8 0, .int .u8 0, .int .u64 0, .int .u64 0, .int .u64 0, .int .u64 0, .int .u64 0, .int .u64 0, .int .u32 0, .int .u32 0, .int .u32 0, .int .u32 0] : Array Value).toList.drop (0 + Nat.min 8 8)).toArray = w2 at hcopy hv2 hg2 hr2 hK2
  have hv2 : Blk w2 gv 46 #[.int .u8 (bev q 0 1 : Nat), .int .u8 (bev q 1 1 : Nat), .int .u8 (bev q 2 1 : Nat), .int .u8 (bev q 3 1 : Nat), .int .u8 (bev q 4 1 : Nat), .int .u8 (bev q 5 1 : Nat), .int .u8 (bev q 6 1 : Nat), .int .u8 (bev q 7 1 : Nat), .int .u64 0, .int .u64 0, .int .u64 0, .int .u64 0, .int .u64 0, .int .u64 0, .int .u32 0, .int .u32 0, .int .u32 0, .int .u32 0] := by
    unfold Blk
    rw [hv2, List.take_take, eight_cells q (by rw [HL.out]; omega)]
    rfl
  clear hv1 hg1 hr1 hK1
  go_wp2_with (with_reducible refine wpList_copy_go _ rfl _ _ 22 22 rfl _ _ rfl rfl hcopy ?_)
  clear hcopy
  refine (u64_l gb 8 _ _ q 8 _ (by omega) (by omega) (hg2.stand HL.out 8 8 (by omega))).mono ?_
  rintro e wx ⟨rfl, k2, rfl⟩
  have c8 := hv2.cell 8
  have f8 := hv2.frozen 8
  simp only [List.getElem?_toArray, List.getElem?_cons_zero, List.getElem?_cons_succ] at c8
  go_wp2_with fail
  have hv3 := ((hv2.drewN k2).set_ 8 (.int .u64 (bev q 8 8 : Nat)))
  have hg3 := ((hg2.drewN k2).far (p := ⟨gv, 8, none⟩) ne2 (.int .u64 (bev q 8 8 : Nat)))
  have hr3 := ((hr2.drewN k2).far (p := ⟨gv, 8, none⟩) hne (.int .u64 (bev q 8 8 : Nat)))
  have hK3 := ((hK2.drewN k2).setCell (p := ⟨gv, 8, none⟩) (fun _ => .inl rfl) (.int .u64 (bev q 8 8 : Nat)))
  clear hv2 hg2 hr2 hK2 c8 f8
  generalize ((w2.drewN k2).setCell ⟨gv, 8, none⟩ (.int .u64 (bev q 8 8 : Nat))) = w3 at hv3 hg3 hr3 hK3 ⊢
  simp only [List.setIfInBounds_toArray, List.set_cons_succ, List.set_cons_zero] at hv3
  refine (u64_l gb 16 _ _ q 16 _ (by omega) (by omega) (hg3.stand HL.out 16 8 (by omega))).mono ?_
  rintro e wx ⟨rfl, k3, rfl⟩
  have c9 := hv3.cell 9
  have f9 := hv3.frozen 9
  simp only [List.getElem?_toArray, List.getElem?_cons_zero, List.getElem?_cons_succ] at c9
  go_wp2_with fail
  have hv4 := ((hv3.drewN k3).set_ 9 (.int .u64 (bev q 16 8 : Nat)))
  have hg4 := ((hg3.drewN k3).far (p := ⟨gv, 9, none⟩) ne2 (.int .u64 (bev q 16 8 : Nat)))
  have hr4 := ((hr3.drewN k3).far (p := ⟨gv, 9, none⟩) hne (.int .u64 (bev q 16 8 : Nat)))
  have hK4 := ((hK3.drewN k3).setCell (p := ⟨gv, 9, none⟩) (fun _ => .inl rfl) (.int .u64 (bev q 16 8 : Nat)))
  clear hv3 hg3 hr3 hK3 c9 f9
  generalize ((w3.drewN k3).setCell ⟨gv, 9, none⟩ (.int .u64 (bev q 16 8 : Nat))) = w4 at hv4 hg4 hr4 hK4 ⊢
  simp only [List.setIfInBounds_toArray, List.set_cons_succ, List.set_cons_zero] at hv4
  refine (u64_l gb 24 _ _ q 24 _ (by omega) (by omega) (hg4.stand HL.out 24 8 (by omega))).mono ?_
  rintro e wx ⟨rfl, k4, rfl⟩
  have c10 := hv4.cell 10
  have f10 := hv4.frozen 10
  simp only [List.getElem?_toArray, List.getElem?_cons_zero, List.getElem?_cons_succ] at c10
  go_wp2_with fail
  have hv5 := ((hv4.drewN k4).set_ 10 (.int .u64 (bev q 24 8 : Nat)))
  have hg5 := ((hg4.drewN k4).far (p := ⟨gv, 10, none⟩) ne2 (.int .u64 (bev q 24 8 : Nat)))
  have hr5 := ((hr4.drewN k4).far (p := ⟨gv, 10, none⟩) hne (.int .u64 (bev q 24 8 : Nat)))
  have hK5 := ((hK4.drewN k4).setCell (p := ⟨gv, 10, none⟩) (fun _ => .inl rfl) (.int .u64 (bev q 24 8 : Nat)))
  clear hv4 hg4 hr4 hK4 c10 f10
  generalize ((w4.drewN k4).setCell ⟨gv, 10, none⟩ (.int .u64 (bev q 24 8 : Nat))) = w5 at hv5 hg5 hr5 hK5 ⊢
  simp only [List.setIfInBounds_toArray, List.set_cons_succ, List.set_cons_zero] at hv5
  refine (u64_l gb 32 _ _ q 32 _ (by omega) (by omega) (hg5.stand HL.out 32 8 (by omega))).mono ?_
  rintro e wx ⟨rfl, k5, rfl⟩
  have c11 := hv5.cell 11
  have f11 := hv5.frozen 11
  simp only [List.getElem?_toArray, List.getElem?_cons_zero, List.getElem?_cons_succ] at c11
  go_wp2_with fail
  have hv6 := ((hv5.drewN k5).set_ 11 (.int .u64 (bev q 32 8 : Nat)))
  have hg6 := ((hg5.drewN k5).far (p := ⟨gv, 11, none⟩) ne2 (.int .u64 (bev q 32 8 : Nat)))
  have hr6 := ((hr5.drewN k5).far (p := ⟨gv, 11, none⟩) hne (.int .u64 (bev q 32 8 : Nat)))
  have hK6 := ((hK5.drewN k5).setCell (p := ⟨gv, 11, none⟩) (fun _ => .inl rfl) (.int .u64 (bev q 32 8 : Nat)))
  clear hv5 hg5 hr5 hK5 c11 f11
  generalize ((w5.drewN k5).setCell ⟨gv, 11, none⟩ (.int .u64 (bev q 32 8 : Nat))) = w6 at hv6 hg6 hr6 hK6 ⊢
  simp only [List.setIfInBounds_toArray, List.set_cons_succ, List.set_cons_zero] at hv6
  refine (u64_l gb 40 _ _ q 40 _ (by omega) (by omega) (hg6.stand HL.out 40 8 (by omega))).mono ?_
  rintro e wx ⟨rfl, k6, rfl⟩
  have c12 := hv6.cell 12
  have f12 := hv6.frozen 12
  simp only [List.getElem?_toArray, List.getElem?_cons_zero, List.getElem?_cons_succ] at c12
  go_wp2_with fail
  have hv7 := ((hv6.drewN k6).set_ 12 (.int .u64 (bev q 40 8 : Nat)))
  have hg7 := ((hg6.drewN k6).far (p := ⟨gv, 12, none⟩) ne2 (.int .u64 (bev q 40 8 : Nat)))
  have hr7 := ((hr6.drewN k6).far (p := ⟨gv, 12, none⟩) hne (.int .u64 (bev q 40 8 : Nat)))
  have hK7 := ((hK6.drewN k6).setCell (p := ⟨gv, 12, none⟩) (fun _ => .inl rfl) (.int .u64 (bev q 40 8 : Nat)))
  clear hv6 hg6 hr6 hK6 c12 f12
  generalize ((w6.drewN k6).setCell ⟨gv, 12, none⟩ (.int .u64 (bev q 40 8 : Nat))) = w7 at hv7 hg7 hr7 hK7 ⊢
  simp only [List.setIfInBounds_toArray, List.set_cons_succ, List.set_cons_zero] at hv7
  refine (u64_l gb 48 _ _ q 48 _ (by omega) (by omega) (hg7.stand HL.out 48 8 (by omega))).mono ?_
  rintro e wx ⟨rfl, k7, rfl⟩
  have c13 := hv7.cell 13
  have f13 := hv7.frozen 13
  simp only [List.getElem?_toArray, List.getElem?_cons_zero, List.getElem?_cons_succ] at c13
  go_wp2_with fail
  have hv8 := ((hv7.drewN k7).set_ 13 (.int .u64 (bev q 48 8 : Nat)))
  have hg8 := ((hg7.drewN k7).far (p := ⟨gv, 13, none⟩) ne2 (.int .u64 (bev q 48 8 : Nat)))
  have hr8 := ((hr7.drewN k7).far (p := ⟨gv, 13, none⟩) hne (.int .u64 (bev q 48 8 : Nat)))
  have hK8 := ((hK7.drewN k7).setCell (p := ⟨gv, 13, none⟩) (fun _ => .inl rfl) (.int .u64 (bev q 48 8 : Nat)))
  clear hv7 hg7 hr7 hK7 c13 f13
  generalize ((w7.drewN k7).setCell ⟨gv, 13, none⟩ (.int .u64 (bev q 48 8 : Nat))) = w8 at hv8 hg8 hr8 hK8 ⊢
  simp only [List.setIfInBounds_toArray, List.set_cons_succ, List.set_cons_zero] at hv8
  refine (u32_l gb 56 _ _ q 56 _ (by omega) (by omega) (hg8.stand HL.out 56 4 (by omega))).mono ?_
  rintro e wx ⟨rfl, k8, rfl⟩
  have c14 := hv8.cell 14
  have f14 := hv8.frozen 14
  simp only [List.getElem?_toArray, List.getElem?_cons_zero, List.getElem?_cons_succ] at c14
  go_wp2_with fail
  have hv9 := ((hv8.drewN k8).set_ 14 (.int .u32 (bev q 56 4 : Nat)))
  have hg9 := ((hg8.drewN k8).far (p := ⟨gv, 14, none⟩) ne2 (.int .u32 (bev q 56 4 : Nat)))
  have hr9 := ((hr8.drewN k8).far (p := ⟨gv, 14, none⟩) hne (.int .u32 (bev q 56 4 : Nat)))
  have hK9 := ((hK8.drewN k8).setCell (p := ⟨gv, 14, none⟩) (fun _ => .inl rfl) (.int .u32 (bev q 56 4 : Nat)))
  clear hv8 hg8 hr8 hK8 c14 f14
  generalize ((w8.drewN k8).setCell ⟨gv, 14, none⟩ (.int .u32 (bev q 56 4 : Nat))) = w9 at hv9 hg9 hr9 hK9 ⊢
  simp only [List.setIfInBounds_toArray, List.set_cons_succ, List.set_cons_zero] at hv9
  refine (u32_l gb 60 _ _ q 60 _ (by omega) (by omega) (hg9.stand HL.out 60 4 (by omega))).mono ?_
  rintro e wx ⟨rfl, k9, rfl⟩
  have c15 := hv9.cell 15
  have f15 := hv9.frozen 15
  simp only [List.getElem?_toArray, List.getElem?_cons_zero, List.getElem?_cons_succ] at c15
  go_wp2_with fail
  have hv10 := ((hv9.drewN k9).set_ 15 (.int .u32 (bev q 60 4 : Nat)))
  have hg10 := ((hg9.drewN k9).far (p := ⟨gv, 15, none⟩) ne2 (.int .u32 (bev q 60 4 : Nat)))
  have hr10 := ((hr9.drewN k9).far (p := ⟨gv, 15, none⟩) hne (.int .u32 (bev q 60 4 : Nat)))
  have hK10 := ((hK9.drewN k9).setCell (p := ⟨gv, 15, none⟩) (fun _ => .inl rfl) (.int .u32 (bev q 60 4 : Nat)))
  clear hv9 hg9 hr9 hK9 c15 f15
  generalize ((w9.drewN k9).setCell ⟨gv, 15, none⟩ (.int .u32 (bev q 60 4 : Nat))) = w10 at hv10 hg10 hr10 hK10 ⊢
  simp only [List.setIfInBounds_toArray, List.set_cons_succ, List.set_cons_zero] at hv10
  refine (u32_l gb 64 _ _ q 64 _ (by omega) (by omega) (hg10.stand HL.out 64 4 (by omega))).mono ?_
  rintro e wx ⟨rfl, k10, rfl⟩
  have c16 := hv10.cell 16
  have f16 := hv10.frozen 16
  simp only [List.getElem?_toArray, List.getElem?_cons_zero, List.getElem?_cons_succ] at c16
  go_wp2_with fail
  have hv11 := ((hv10.drewN k10).set_ 16 (.int .u32 (bev q 64 4 : Nat)))
  have hg11 := ((hg10.drewN k10).far (p := ⟨gv, 16, none⟩) ne2 (.int .u32 (bev q 64 4 : Nat)))
  have hr11 := ((hr10.drewN k10).far (p := ⟨gv, 16, none⟩) hne (.int .u32 (bev q 64 4 : Nat)))
  have hK11 := ((hK10.drewN k10).setCell (p := ⟨gv, 16, none⟩) (fun _ => .inl rfl) (.int .u32 (bev q 64 4 : Nat)))
  clear hv10 hg10 hr10 hK10 c16 f16
  generalize ((w10.drewN k10).setCell ⟨gv, 16, none⟩ (.int .u32 (bev q 64 4 : Nat))) = w11 at hv11 hg11 hr11 hK11 ⊢
  simp only [List.setIfInBounds_toArray, List.set_cons_succ, List.set_cons_zero] at hv11
  refine (u32_l gb 68 _ _ q 68 _ (by omega) (by omega) (hg11.stand HL.out 68 4 (by omega))).mono ?_
  rintro e wx ⟨rfl, k11, rfl⟩
  have c17 := hv11.cell 17
  have f17 := hv11.frozen 17
  simp only [List.getElem?_toArray, List.getElem?_cons_zero, List.getElem?_cons_succ] at c17
  go_wp2_with fail
  have hv12 := ((hv11.drewN k11).set_ 17 (.int .u32 (bev q 68 4 : Nat)))
  have hg12 := ((hg11.drewN k11).far (p := ⟨gv, 17, none⟩) ne2 (.int .u32 (bev q 68 4 : Nat)))
  have hr12 := ((hr11.drewN k11).far (p := ⟨gv, 17, none⟩) hne (.int .u32 (bev q 68 4 : Nat)))
  have hK12 := ((hK11.drewN k11).setCell (p := ⟨gv, 17, none⟩) (fun _ => .inl rfl) (.int .u32 (bev q 68 4 : Nat)))
  clear hv11 hg11 hr11 hK11 c17 f17
  generalize ((w11.drewN k11).setCell ⟨gv, 17, none⟩ (.int .u32 (bev q 68 4 : Nat))) = w12 at hv12 hg12 hr12 hK12 ⊢
  simp only [List.setIfInBounds_toArray, List.set_cons_succ, List.set_cons_zero] at hv12
  go_ret
  rw [HQ.out]
  exact ⟨by simp, hv12, hr12, hK12⟩

set_option maxRecDepth 100000 in
theorem short_SectionHeader64 (gr gv i c : Nat) (pv : Int) (A : Option Addr) (l : List UInt8) (w : World) (hE : Eofs w)
    (hv : Blk w gv 46 #[.int .u8 0, .int .u8 0, .int .u8 0, .int .u8 0, .int .u8 0, .int .u8 0, .int .u8 0, .int .u8 0, .int .u64 0, .int .u64 0, .int .u64 0, .int .u64 0, .int .u64 0, .int .u64 0, .int .u32 0, .int .u32 0, .int .u32 0, .int .u32 0])
    (hr : Blk w gr 61 #[.slice A l.length c, .int .i64 (i : Nat), .int .i64 pv]) (hb : Bs w A l) (hA : ∀ b o, A = some ⟨b, o, none⟩ → b ≠ gr)
    (hi : l.length < i + 72) (hc : l.length ≤ c) (hm : c ≤ maxLen) (h1 : ¬ 1 = gr) (h2 : ¬ 2 = gr) :
    Calls Tryd.prog 21 #[.pointer (some ⟨gv, 0, none⟩), .iface 50 (.pointer (some ⟨gr, 0, none⟩)), .int .u8 1] w fun e w' => (∃ u x, e = .returned (.iface u x)) ∧ Keeps (fun j => j = gr) w w' := by
  have hmk : ∀ w : World, (Instr.makeSlice 22 (.int .i64 72) (.int .i64 72)).run Tryd.prog w = .ok (.slice (some ⟨w.heap.size, 0, none⟩) 72 72) (w.alloc (.cells #[.int .u8 0, .int .u8 0, .int .u8 0, .int .u8 0, .int .u8 0, .int .u8 0, .int .u8 0, .int .u8 0, .int .u8 0, .int .u8 0, .int .u8 0, .int .u8 0, .int .u8 0, .int .u8 0, .int .u8 0, .int .u8 0, .int .u8 0, .int .u8 0, .int .u8 0, .int .u8 0, .int .u8 0, .int .u8 0, .int .u8 0, .int .u8 0, .int .u8 0, .int .u8 0, .int .u8 0, .int .u8 0, .int .u8 0, .int .u8 0, .int .u8 0, .int .u8 0, .int .u8 0, .int .u8 0, .int .u8 0, .int .u8 0, .int .u8 0, .int .u8 0, .int .u8 0, .int .u8 0, .int .u8 0, .int .u8 0, .int .u8 0, .int .u8 0, .int .u8 0, .int .u8 0, .int .u8 0, .int .u8 0, .int .u8 0, .int .u8 0, .int .u8 0, .int .u8 0, .int .u8 0, .int .u8 0, .int .u8 0, .int .u8 0, .int .u8 0, .int .u8 0, .int .u8 0, .int .u8 0, .int .u8 0, .int .u8 0, .int .u8 0, .int .u8 0, .int .u8 0, .int .u8 0, .int .u8 0, .int .u8 0, .int .u8 0, .int .u8 0, .int .u8 0, .int .u8 0] 5)) := fun _ => by kernel_rfl
  have hgr := hr.lt
  have hgv := hv.lt
  have hge : 1 < w.heap.size := by obtain ⟨a, ha⟩ := hE.eof; exact World.block_lt_of_cell? w _ ha
  have hgu : 2 < w.heap.size := by obtain ⟨a, ha⟩ := hE.unx; exact World.block_lt_of_cell? w _ ha
  go_enter Tryd.func21, Tryd.ntmps21
  go_wp2_with fail
  refine (full_short gr w.heap.size 72 i c 5 pv A l #[.int .u8 0, .int .u8 0, .int .u8 0, .int .u8 0, .int .u8 0, .int .u8 0, .int .u8 0, .int .u8 0, .int .u8 0, .int .u8 0, .int .u8 0, .int .u8 0, .int .u8 0, .int .u8 0, .int .u8 0, .int .u8 0, .int .u8 0, .int .u8 0, .int .u8 0, .int .u8 0, .int .u8 0, .int .u8 0, .int .u8 0, .int .u8 0, .int .u8 0, .int .u8 0, .int .u8 0, .int .u8 0, .int .u8 0, .int .u8 0, .int .u8 0, .int .u8 0, .int .u8 0, .int .u8 0, .int .u8 0, .int .u8 0, .int .u8 0, .int .u8 0, .int .u8 0, .int .u8 0, .int .u8 0, .int .u8 0, .int .u8 0, .int .u8 0, .int .u8 0, .int .u8 0, .int .u8 0, .int .u8 0, .int .u8 0, .int .u8 0, .int .u8 0, .int .u8 0, .int .u8 0, .int .u8 0, .int .u8 0, .int .u8 0, .int .u8 0, .int .u8 0, .int .u8 0, .int .u8 0, .int .u8 0, .int .u8 0, .int .u8 0, .int .u8 0, .int .u8 0, .int .u8 0, .int .u8 0, .int .u8 0, .int .u8 0, .int .u8 0, .int .u8 0, .int .u8 0] _ (hE.keep (Below.heap_alloc _ _ _ hge) (Below.heap_alloc _ _ _ hgu)) (hr.alloc _) (hb.alloc _) (Blk.new _ _ _) (by omega) hA hi (by omega) hc hm (by omega) rfl (by omega) (by omega)).mono ?_
  rintro e w1 ⟨⟨v, u, x, rfl⟩, hK1'⟩
  have hK1 : Keeps (fun j => j = gr) w w1 := ((Keeps.refl _ w).alloc _).step hK1' (fun j hj hT => by omega)
  clear hmk hr hb hv hK1' hE
  go_wp2_with fail
  go_ret
  exact ⟨⟨u, x, by simp⟩, hK1⟩
end Go.Proofs.YtjjpjobkdipahaaDoor
