/- plan9obj.prog's read from a SectionReader, printed by program from XReadProg. -/
import Derived.Test.YtpdjolkbjcdimaaDoorSecRd
import Derived.Test.YtpdjolkbjcdimaaDoorBeX
import Derived.Test.YtpdjolkbjcdimaaDoorWindow
namespace Go.Proofs.YtpdjolkbjcdimaaDoor
open Go.RowKit

set_option maxRecDepth 100000 in
set_option maxHeartbeats 1600000 in
theorem readS_Prog (gs gr gv base i c : Nat) (lim n : Int) (x y : Value) (A : Option Addr) (l : List UInt8) (w : World)
    (hv : Blk w gv 93 #[.int .u32 0, .int .u32 0, .int .u32 0, .int .u32 0, .int .u32 0, .int .u32 0, .int .u32 0, .int .u32 0])
    (hs : Blk w gs 140 (srCells gr base i lim n)) (hr0 : Blk w gr 112 #[.slice A l.length c, x, y]) (hb : Bs w A l) (hne : gs ≠ gv)
    (hi : i + 32 ≤ l.length) (hc : l.length ≤ c) (hl1 : (i : Int) + 32 ≤ lim) (hl2 : lim ≤ 9223372036854775807) :
    Calls Tryd.prog 35 #[.pointer (some ⟨gv, 0, none⟩), .iface 75 (.pointer (some ⟨gs, 0, none⟩)), .int .u8 1] w fun e w' =>
      e = .returned .nilIface ∧ Blk w' gv 93 #[.int .u32 (bev ((l.drop i).take 32) 0 4 : Nat), .int .u32 (bev ((l.drop i).take 32) 4 4 : Nat), .int .u32 (bev ((l.drop i).take 32) 8 4 : Nat), .int .u32 (bev ((l.drop i).take 32) 12 4 : Nat), .int .u32 (bev ((l.drop i).take 32) 16 4 : Nat), .int .u32 (bev ((l.drop i).take 32) 20 4 : Nat), .int .u32 (bev ((l.drop i).take 32) 24 4 : Nat), .int .u32 (bev ((l.drop i).take 32) 28 4 : Nat)] ∧
      Blk w' gs 140 (srCells gr base (i + 32) lim n) ∧ Keeps (fun j => j = gv ∨ j = gs) w w' := by
  have hmk : ∀ w : World, (Instr.makeSlice 22 (.int .i64 32) (.int .i64 32)).run Tryd.prog w = .ok (.slice (some ⟨w.heap.size, 0, none⟩) 32 32) (w.alloc (.cells #[.int .u8 0, .int .u8 0, .int .u8 0, .int .u8 0, .int .u8 0, .int .u8 0, .int .u8 0, .int .u8 0, .int .u8 0, .int .u8 0, .int .u8 0, .int .u8 0, .int .u8 0, .int .u8 0, .int .u8 0, .int .u8 0, .int .u8 0, .int .u8 0, .int .u8 0, .int .u8 0, .int .u8 0, .int .u8 0, .int .u8 0, .int .u8 0, .int .u8 0, .int .u8 0, .int .u8 0, .int .u8 0, .int .u8 0, .int .u8 0, .int .u8 0, .int .u8 0] 5)) := fun _ => by kernel_rfl
  have hgs := hs.lt
  have hgv := hv.lt
  go_enter Tryd.func35, Tryd.ntmps35
  go_wp2_with fail
  refine (srFull_all gs gr w.heap.size base i 32 c 5 lim n x y A l #[.int .u8 0, .int .u8 0, .int .u8 0, .int .u8 0, .int .u8 0, .int .u8 0, .int .u8 0, .int .u8 0, .int .u8 0, .int .u8 0, .int .u8 0, .int .u8 0, .int .u8 0, .int .u8 0, .int .u8 0, .int .u8 0, .int .u8 0, .int .u8 0, .int .u8 0, .int .u8 0, .int .u8 0, .int .u8 0, .int .u8 0, .int .u8 0, .int .u8 0, .int .u8 0, .int .u8 0, .int .u8 0, .int .u8 0, .int .u8 0, .int .u8 0, .int .u8 0] _ (hs.alloc _) (hr0.alloc _) (hb.alloc _) (Blk.new _ _ _) (by omega) hi (by omega) hc rfl hl1 hl2).mono ?_
  rintro e w1 ⟨rfl, hg1, hr1, hK1'⟩
  have hv1 : Blk w1 gv 93 _ := (hv.alloc _).keeps hK1' (by omega)
  have hK1 : Keeps (fun j => j = gv ∨ j = gs) w w1 := ((Keeps.refl _ w).alloc _).step hK1' (fun j hj hT => by omega)
  have hql : ((l.drop i).take 32).length = 32 := by simp; omega
  clear hmk hs hr0 hb hv hK1'
  generalize hq : (l.drop i).take 32 = q at hg1 hql
  have HQ := Lib.hid hq
  have HL := Lib.hid hql
  clear hq hql
  generalize w.heap.size = gb at hg1 hgs hgv ⊢
  have ne1 : ¬ gv = gb := by omega
  have ne2 : ¬ gb = gv := by omega
  go_wp2_with fail
  refine (u32_l gb 0 _ _ q 0 _ (by omega) (by omega) (hg1.stand HL.out 0 4 (by omega))).mono ?_
  rintro e wx ⟨rfl, k1, rfl⟩
  have c0 := hv1.cell 0
  have f0 := hv1.frozen 0
  simp only [List.getElem?_toArray, List.getElem?_cons_zero] at c0
  go_wp2_with fail
  have hv2 := ((hv1.drewN k1).set_ 0 (.int .u32 (bev q 0 4 : Nat)))
  have hg2 := ((hg1.drewN k1).far (p := ⟨gv, 0, none⟩) ne2 (.int .u32 (bev q 0 4 : Nat)))
  have hr2 := ((hr1.drewN k1).far (p := ⟨gv, 0, none⟩) hne (.int .u32 (bev q 0 4 : Nat)))
  have hK2 := ((hK1.drewN k1).setCell (p := ⟨gv, 0, none⟩) (fun _ => .inl rfl) (.int .u32 (bev q 0 4 : Nat)))
  clear hv1 hg1 hr1 hK1 c0 f0
  generalize ((w1.drewN k1).setCell ⟨gv, 0, none⟩ (.int .u32 (bev q 0 4 : Nat))) = w2 at hv2 hg2 hr2 hK2 ⊢
  simp only [List.setIfInBounds_toArray, List.set_cons_zero] at hv2
  refine (u32_l gb 4 _ _ q 4 _ (by omega) (by omega) (hg2.stand HL.out 4 4 (by omega))).mono ?_
  rintro e wx ⟨rfl, k2, rfl⟩
  have c1 := hv2.cell 1
  have f1 := hv2.frozen 1
  simp only [List.getElem?_toArray, List.getElem?_cons_zero, List.getElem?_cons_succ] at c1
  go_wp2_with fail
  have hv3 := ((hv2.drewN k2).set_ 1 (.int .u32 (bev q 4 4 : Nat)))
  have hg3 := ((hg2.drewN k2).far (p := ⟨gv, 1, none⟩) ne2 (.int .u32 (bev q 4 4 : Nat)))
  have hr3 := ((hr2.drewN k2).far (p := ⟨gv, 1, none⟩) hne (.int .u32 (bev q 4 4 : Nat)))
  have hK3 := ((hK2.drewN k2).setCell (p := ⟨gv, 1, none⟩) (fun _ => .inl rfl) (.int .u32 (bev q 4 4 : Nat)))
  clear hv2 hg2 hr2 hK2 c1 f1
  generalize ((w2.drewN k2).setCell ⟨gv, 1, none⟩ (.int .u32 (bev q 4 4 : Nat))) = w3 at hv3 hg3 hr3 hK3 ⊢
  simp only [List.setIfInBounds_toArray, List.set_cons_succ, List.set_cons_zero] at hv3
  refine (u32_l gb 8 _ _ q 8 _ (by omega) (by omega) (hg3.stand HL.out 8 4 (by omega))).mono ?_
  rintro e wx ⟨rfl, k3, rfl⟩
  have c2 := hv3.cell 2
  have f2 := hv3.frozen 2
  simp only [List.getElem?_toArray, List.getElem?_cons_zero, List.getElem?_cons_succ] at c2
  go_wp2_with fail
  have hv4 := ((hv3.drewN k3).set_ 2 (.int .u32 (bev q 8 4 : Nat)))
  have hg4 := ((hg3.drewN k3).far (p := ⟨gv, 2, none⟩) ne2 (.int .u32 (bev q 8 4 : Nat)))
  have hr4 := ((hr3.drewN k3).far (p := ⟨gv, 2, none⟩) hne (.int .u32 (bev q 8 4 : Nat)))
  have hK4 := ((hK3.drewN k3).setCell (p := ⟨gv, 2, none⟩) (fun _ => .inl rfl) (.int .u32 (bev q 8 4 : Nat)))
  clear hv3 hg3 hr3 hK3 c2 f2
  generalize ((w3.drewN k3).setCell ⟨gv, 2, none⟩ (.int .u32 (bev q 8 4 : Nat))) = w4 at hv4 hg4 hr4 hK4 ⊢
  simp only [List.setIfInBounds_toArray, List.set_cons_succ, List.set_cons_zero] at hv4
  refine (u32_l gb 12 _ _ q 12 _ (by omega) (by omega) (hg4.stand HL.out 12 4 (by omega))).mono ?_
  rintro e wx ⟨rfl, k4, rfl⟩
  have c3 := hv4.cell 3
  have f3 := hv4.frozen 3
  simp only [List.getElem?_toArray, List.getElem?_cons_zero, List.getElem?_cons_succ] at c3
  go_wp2_with fail
  have hv5 := ((hv4.drewN k4).set_ 3 (.int .u32 (bev q 12 4 : Nat)))
  have hg5 := ((hg4.drewN k4).far (p := ⟨gv, 3, none⟩) ne2 (.int .u32 (bev q 12 4 : Nat)))
  have hr5 := ((hr4.drewN k4).far (p := ⟨gv, 3, none⟩) hne (.int .u32 (bev q 12 4 : Nat)))
  have hK5 := ((hK4.drewN k4).setCell (p := ⟨gv, 3, none⟩) (fun _ => .inl rfl) (.int .u32 (bev q 12 4 : Nat)))
  clear hv4 hg4 hr4 hK4 c3 f3
  generalize ((w4.drewN k4).setCell ⟨gv, 3, none⟩ (.int .u32 (bev q 12 4 : Nat))) = w5 at hv5 hg5 hr5 hK5 ⊢
  simp only [List.setIfInBounds_toArray, List.set_cons_succ, List.set_cons_zero] at hv5
  refine (u32_l gb 16 _ _ q 16 _ (by omega) (by omega) (hg5.stand HL.out 16 4 (by omega))).mono ?_
  rintro e wx ⟨rfl, k5, rfl⟩
  have c4 := hv5.cell 4
  have f4 := hv5.frozen 4
  simp only [List.getElem?_toArray, List.getElem?_cons_zero, List.getElem?_cons_succ] at c4
  go_wp2_with fail
  have hv6 := ((hv5.drewN k5).set_ 4 (.int .u32 (bev q 16 4 : Nat)))
  have hg6 := ((hg5.drewN k5).far (p := ⟨gv, 4, none⟩) ne2 (.int .u32 (bev q 16 4 : Nat)))
  have hr6 := ((hr5.drewN k5).far (p := ⟨gv, 4, none⟩) hne (.int .u32 (bev q 16 4 : Nat)))
  have hK6 := ((hK5.drewN k5).setCell (p := ⟨gv, 4, none⟩) (fun _ => .inl rfl) (.int .u32 (bev q 16 4 : Nat)))
  clear hv5 hg5 hr5 hK5 c4 f4
  generalize ((w5.drewN k5).setCell ⟨gv, 4, none⟩ (.int .u32 (bev q 16 4 : Nat))) = w6 at hv6 hg6 hr6 hK6 ⊢
  simp only [List.setIfInBounds_toArray, List.set_cons_succ, List.set_cons_zero] at hv6
  refine (u32_l gb 20 _ _ q 20 _ (by omega) (by omega) (hg6.stand HL.out 20 4 (by omega))).mono ?_
  rintro e wx ⟨rfl, k6, rfl⟩
  have c5 := hv6.cell 5
  have f5 := hv6.frozen 5
  simp only [List.getElem?_toArray, List.getElem?_cons_zero, List.getElem?_cons_succ] at c5
  go_wp2_with fail
  have hv7 := ((hv6.drewN k6).set_ 5 (.int .u32 (bev q 20 4 : Nat)))
  have hg7 := ((hg6.drewN k6).far (p := ⟨gv, 5, none⟩) ne2 (.int .u32 (bev q 20 4 : Nat)))
  have hr7 := ((hr6.drewN k6).far (p := ⟨gv, 5, none⟩) hne (.int .u32 (bev q 20 4 : Nat)))
  have hK7 := ((hK6.drewN k6).setCell (p := ⟨gv, 5, none⟩) (fun _ => .inl rfl) (.int .u32 (bev q 20 4 : Nat)))
  clear hv6 hg6 hr6 hK6 c5 f5
  generalize ((w6.drewN k6).setCell ⟨gv, 5, none⟩ (.int .u32 (bev q 20 4 : Nat))) = w7 at hv7 hg7 hr7 hK7 ⊢
  simp only [List.setIfInBounds_toArray, List.set_cons_succ, List.set_cons_zero] at hv7
  refine (u32_l gb 24 _ _ q 24 _ (by omega) (by omega) (hg7.stand HL.out 24 4 (by omega))).mono ?_
  rintro e wx ⟨rfl, k7, rfl⟩
  have c6 := hv7.cell 6
  have f6 := hv7.frozen 6
  simp only [List.getElem?_toArray, List.getElem?_cons_zero, List.getElem?_cons_succ] at c6
  go_wp2_with fail
  have hv8 := ((hv7.drewN k7).set_ 6 (.int .u32 (bev q 24 4 : Nat)))
  have hg8 := ((hg7.drewN k7).far (p := ⟨gv, 6, none⟩) ne2 (.int .u32 (bev q 24 4 : Nat)))
  have hr8 := ((hr7.drewN k7).far (p := ⟨gv, 6, none⟩) hne (.int .u32 (bev q 24 4 : Nat)))
  have hK8 := ((hK7.drewN k7).setCell (p := ⟨gv, 6, none⟩) (fun _ => .inl rfl) (.int .u32 (bev q 24 4 : Nat)))
  clear hv7 hg7 hr7 hK7 c6 f6
  generalize ((w7.drewN k7).setCell ⟨gv, 6, none⟩ (.int .u32 (bev q 24 4 : Nat))) = w8 at hv8 hg8 hr8 hK8 ⊢
  simp only [List.setIfInBounds_toArray, List.set_cons_succ, List.set_cons_zero] at hv8
  refine (u32_l gb 28 _ _ q 28 _ (by omega) (by omega) (hg8.stand HL.out 28 4 (by omega))).mono ?_
  rintro e wx ⟨rfl, k8, rfl⟩
  have c7 := hv8.cell 7
  have f7 := hv8.frozen 7
  simp only [List.getElem?_toArray, List.getElem?_cons_zero, List.getElem?_cons_succ] at c7
  go_wp2_with fail
  have hv9 := ((hv8.drewN k8).set_ 7 (.int .u32 (bev q 28 4 : Nat)))
  have hg9 := ((hg8.drewN k8).far (p := ⟨gv, 7, none⟩) ne2 (.int .u32 (bev q 28 4 : Nat)))
  have hr9 := ((hr8.drewN k8).far (p := ⟨gv, 7, none⟩) hne (.int .u32 (bev q 28 4 : Nat)))
  have hK9 := ((hK8.drewN k8).setCell (p := ⟨gv, 7, none⟩) (fun _ => .inl rfl) (.int .u32 (bev q 28 4 : Nat)))
  clear hv8 hg8 hr8 hK8 c7 f7
  generalize ((w8.drewN k8).setCell ⟨gv, 7, none⟩ (.int .u32 (bev q 28 4 : Nat))) = w9 at hv9 hg9 hr9 hK9 ⊢
  simp only [List.setIfInBounds_toArray, List.set_cons_succ, List.set_cons_zero] at hv9
  go_ret
  rw [HQ.out]
  exact ⟨by simp, hv9, hr9, hK9⟩

end Go.Proofs.YtpdjolkbjcdimaaDoor
