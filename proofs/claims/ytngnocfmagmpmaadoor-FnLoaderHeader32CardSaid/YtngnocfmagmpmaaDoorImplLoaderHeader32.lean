/- impl.LoaderHeader32: the numbers of the struct at the front of bytes, printed by program (gen/gen_impl.py). -/
import Derived.Test.YtngnocfmagmpmaaDoorZzLoaderHeader32
import Derived.Test.YtngnocfmagmpmaaDoorCopied
import Derived.Test.YtngnocfmagmpmaaDoorFields
import Derived.Defers
import Derived.Recover
namespace Go.Proofs.YtngnocfmagmpmaaDoor
open Go.RowKit

/-- The deferred closure of a frame that returns: recover finds nothing. -/
theorem catch_LoaderHeader32 (p q : Addr) (w : World) :
    CallsD Tryd.prog 42 #[.pointer (some p), .pointer (some q)] .returning w fun e u' w' => e = .returned (.tuple #[]) ∧ u' = .returning ∧ w' = w := by
  refine callsD_of_wpS Tryd.func42 rfl fun c₀ cs hu => ?_
  apply wpS_seq
  apply wpS_region
  simp [wpOpsS, go_sem, recoverD, hu, Tryd.ntmps42, Exit.thenS]
  refine wpS_cond (t := false) (by simp [Act.eval, Array.replicate]) ?_
  simp only [Bool.false_eq_true, if_false]
  refine wpS_of_wp (wp_skip ?_)
  cases c₀
  simp_all [bodyPostS, results, Tryd.results42]

set_option maxRecDepth 100000 in
set_option maxHeartbeats 1600000 in
theorem impl_LoaderHeader32 (A : Option Addr) (l : List UInt8) (c : Nat) (w : World) (hb : Bs w A l) (hi : 32 ≤ l.length) (hl : l.length ≤ 2147483647) :
    Calls Tryd.prog 23 #[.slice A l.length c] w fun e w' => ∃ A' n' c', e = .returned (.tuple #[.slice A' n' c', .bool true]) ∧ Us w' A' [bev l 0 4, bev l 4 4, bev l 8 4, bev l 12 4, bev l 16 4, bev l 20 4, bev l 24 4, bev l 28 4] ∧ n' = 8 ∧ n' ≤ c' ∧ c' ≤ maxLen ∧ Below w.heap.size w w' := by
  have hmf : ∀ (fn : Fn) (first cap : Array Value) (w : World), (Instr.makeFunc fn first cap).run Tryd.prog w = .ok (.func fn first cap) w := fun _ _ _ _ => rfl
  go_enter_defers Tryd.func23, Tryd.ntmps23
  go_wp2_with fail
  refine (copied_any A l c _ ((hb.alloc _).alloc _) (by omega)).mono ?_
  rintro e w1 ⟨A', c', rfl, hown, hbel⟩
  go_wp2_with fail
  obtain ⟨hb1, _, hc1, hm1, hlo⟩ := Bs.of_own hown
  have hB : Blk w1 w.heap.size 23 _ := ((Blk.new w 23 _).alloc _).below hbel (by simp; omega)
  have hB' : Blk w1 (w.heap.size + 1) 4 _ := (Blk.at_ (w.alloc (.cells #[.slice none 0 0] 23)) 4 _ (by simp)).below hbel (by simp)
  have hkeep : Below w.heap.size w w1 := (((Below.refl _ _).alloc (Nat.le_refl _) _).alloc (by simp) _).trans (hbel.mono (by simp; omega))
  have hz1 : w.heap.size + 1 < w1.heap.size := hB'.lt
  refine (zz_LoaderHeader32 A' l c' _ hb1 (fun b o h => (hlo b o h).2) hi hc1 hm1).mono ?_
  rintro e w2 ⟨rfl, hbel2⟩
  have hC := hB.below hbel2 (by omega)
  have hC' := hB'.below hbel2 (by omega)
  have hk2 : Below w.heap.size w w2 := hkeep.trans (hbel2.mono (by omega))
  have hz2 : w.heap.size + 1 < w2.heap.size := hC'.lt
  have hz3 : w.heap.size < w2.heap.size := hC.lt
  have c0 := hC.cell 0
  have c1 := hC'.cell 0
  have f0 := hC.frozen 0
  have f1 := hC'.frozen 0
  simp only [List.getElem?_toArray, List.getElem?_cons_zero] at c0 c1
  clear hb1 hlo hown hb hB hB' hkeep hbel hbel2
  generalize hg0 : w.heap.size = g0 at *
  have HG0 := Lib.hid hg0
  clear hg0
  have b0 : bev l 0 4 < 4294967296 := bev_lt l 0 4
  have b1 : bev l 4 4 < 4294967296 := bev_lt l 4 4
  have b2 : bev l 8 4 < 4294967296 := bev_lt l 8 4
  have b3 : bev l 12 4 < 4294967296 := bev_lt l 12 4
  have b4 : bev l 16 4 < 4294967296 := bev_lt l 16 4
  have b5 : bev l 20 4 < 4294967296 := bev_lt l 20 4
  have b6 : bev l 24 4 < 4294967296 := bev_lt l 24 4
  have b7 : bev l 28 4 < 4294967296 := bev_lt l 28 4
  go_wp2_with fail
  have h0 := (((hC.set_ 0 (.slice (some ⟨w2.heap.size + 1, 0, none⟩) 8 8)).far (p := ⟨g0 + 1, 0, none⟩) (by simp) (.bool true)).alloc (.cells #[.int .u32 (bev l 0 4 : Nat), .int .u32 (bev l 4 4 : Nat), .int .u32 (bev l 8 4 : Nat), .int .u32 (bev l 12 4 : Nat), .int .u32 (bev l 16 4 : Nat), .int .u32 (bev l 20 4 : Nat), .int .u32 (bev l 24 4 : Nat), .int .u32 (bev l 28 4 : Nat)] 60)).alloc (.cells #[.int .u64 (bev l 0 4 : Nat), .int .u64 (bev l 4 4 : Nat), .int .u64 (bev l 8 4 : Nat), .int .u64 (bev l 12 4 : Nat), .int .u64 (bev l 16 4 : Nat), .int .u64 (bev l 20 4 : Nat), .int .u64 (bev l 24 4 : Nat), .int .u64 (bev l 28 4 : Nat)] 39)
  have h1 := (((hC'.far (p := ⟨g0, 0, none⟩) (by simp) (.slice (some ⟨w2.heap.size + 1, 0, none⟩) 8 8)).set_ 0 (.bool true)).alloc (.cells #[.int .u32 (bev l 0 4 : Nat), .int .u32 (bev l 4 4 : Nat), .int .u32 (bev l 8 4 : Nat), .int .u32 (bev l 12 4 : Nat), .int .u32 (bev l 16 4 : Nat), .int .u32 (bev l 20 4 : Nat), .int .u32 (bev l 24 4 : Nat), .int .u32 (bev l 28 4 : Nat)] 60)).alloc (.cells #[.int .u64 (bev l 0 4 : Nat), .int .u64 (bev l 4 4 : Nat), .int .u64 (bev l 8 4 : Nat), .int .u64 (bev l 12 4 : Nat), .int .u64 (bev l 16 4 : Nat), .int .u64 (bev l 20 4 : Nat), .int .u64 (bev l 24 4 : Nat), .int .u64 (bev l 28 4 : Nat)] 39)
  have hk9 : Below g0 w _ := (((hk2.setCell (p := ⟨g0, 0, none⟩) (Nat.le_refl _) (.slice (some ⟨w2.heap.size + 1, 0, none⟩) 8 8)).setCell (p := ⟨g0 + 1, 0, none⟩) (by simp) (.bool true)).alloc (by simp [World.setCell]; omega) (.cells #[.int .u32 (bev l 0 4 : Nat), .int .u32 (bev l 4 4 : Nat), .int .u32 (bev l 8 4 : Nat), .int .u32 (bev l 12 4 : Nat), .int .u32 (bev l 16 4 : Nat), .int .u32 (bev l 20 4 : Nat), .int .u32 (bev l 24 4 : Nat), .int .u32 (bev l 28 4 : Nat)] 60)).alloc (by simp [World.setCell]; omega) (.cells #[.int .u64 (bev l 0 4 : Nat), .int .u64 (bev l 4 4 : Nat), .int .u64 (bev l 8 4 : Nat), .int .u64 (bev l 12 4 : Nat), .int .u64 (bev l 16 4 : Nat), .int .u64 (bev l 20 4 : Nat), .int .u64 (bev l 24 4 : Nat), .int .u64 (bev l 28 4 : Nat)] 39)
  have hu9 : Us _ (some ⟨w2.heap.size + 1, 0, none⟩) [bev l 0 4, bev l 4 4, bev l 8 4, bev l 12 4, bev l 16 4, bev l 20 4, bev l 24 4, bev l 28 4] := Us.new (((w2.setCell ⟨g0, 0, none⟩ (.slice (some ⟨w2.heap.size + 1, 0, none⟩) 8 8)).setCell ⟨g0 + 1, 0, none⟩ (.bool true)).alloc (.cells #[.int .u32 (bev l 0 4 : Nat), .int .u32 (bev l 4 4 : Nat), .int .u32 (bev l 8 4 : Nat), .int .u32 (bev l 12 4 : Nat), .int .u32 (bev l 16 4 : Nat), .int .u32 (bev l 20 4 : Nat), .int .u32 (bev l 24 4 : Nat), .int .u32 (bev l 28 4 : Nat)] 60)) 39 [bev l 0 4, bev l 4 4, bev l 8 4, bev l 12 4, bev l 16 4, bev l 20 4, bev l 24 4, bev l 28 4] (by simp [World.setCell])
  change Us ((((w2.setCell ⟨g0, 0, none⟩ (.slice (some ⟨w2.heap.size + 1, 0, none⟩) 8 8)).setCell ⟨g0 + 1, 0, none⟩ (.bool true)).alloc (.cells #[.int .u32 (bev l 0 4 : Nat), .int .u32 (bev l 4 4 : Nat), .int .u32 (bev l 8 4 : Nat), .int .u32 (bev l 12 4 : Nat), .int .u32 (bev l 16 4 : Nat), .int .u32 (bev l 20 4 : Nat), .int .u32 (bev l 24 4 : Nat), .int .u32 (bev l 28 4 : Nat)] 60)).alloc (.cells #[.int .u64 (bev l 0 4 : Nat), .int .u64 (bev l 4 4 : Nat), .int .u64 (bev l 8 4 : Nat), .int .u64 (bev l 12 4 : Nat), .int .u64 (bev l 16 4 : Nat), .int .u64 (bev l 20 4 : Nat), .int .u64 (bev l 24 4 : Nat), .int .u64 (bev l 28 4 : Nat)] 39)) _ _ at hu9
  generalize (((w2.setCell ⟨g0, 0, none⟩ (.slice (some ⟨w2.heap.size + 1, 0, none⟩) 8 8)).setCell ⟨g0 + 1, 0, none⟩ (.bool true)).alloc (.cells #[.int .u32 (bev l 0 4 : Nat), .int .u32 (bev l 4 4 : Nat), .int .u32 (bev l 8 4 : Nat), .int .u32 (bev l 12 4 : Nat), .int .u32 (bev l 16 4 : Nat), .int .u32 (bev l 20 4 : Nat), .int .u32 (bev l 24 4 : Nat), .int .u32 (bev l 28 4 : Nat)] 60)).alloc (.cells #[.int .u64 (bev l 0 4 : Nat), .int .u64 (bev l 4 4 : Nat), .int .u64 (bev l 8 4 : Nat), .int .u64 (bev l 12 4 : Nat), .int .u64 (bev l 16 4 : Nat), .int .u64 (bev l 20 4 : Nat), .int .u64 (bev l 24 4 : Nat), .int .u64 (bev l 28 4 : Nat)] 39) = w5 at h0 h1 hk9 hu9 ⊢
  simp only [List.setIfInBounds_toArray, List.set_cons_zero] at h0 h1
  refine leaves_cons (f := 42) (args := #[.pointer (some ⟨g0, 0, none⟩), .pointer (some ⟨g0 + 1, 0, none⟩)]) (by simp) (by simp [go_sem]) ?_
  refine (catch_LoaderHeader32 ⟨g0, 0, none⟩ ⟨g0 + 1, 0, none⟩ _).mono ?_
  rintro e u' w9 ⟨rfl, rfl, rfl⟩
  have d0 := h0.cell 0
  have d1 := h1.cell 0
  simp only [List.getElem?_toArray, List.getElem?_cons_zero] at d0 d1
  refine ⟨.tuple #[.slice (some ⟨w2.heap.size + 1, 0, none⟩) 8 8, .bool true], ?_, some ⟨w2.heap.size + 1, 0, none⟩, 8, 8, rfl, hu9, rfl, Nat.le_refl _, by simp [maxLen], by rw [HG0.out]; exact hk9⟩
  simp [results, Tryd.results23, go_sem, d0, d1]

set_option maxRecDepth 100000 in
set_option maxHeartbeats 1600000 in
theorem impls_LoaderHeader32 (A : Option Addr) (l : List UInt8) (c : Nat) (w : World) (hE : Eofs w) (hb : Bs w A l) (hi : l.length < 32) :
    Calls Tryd.prog 23 #[.slice A l.length c] w fun e w' => e = .returned (.tuple #[.slice none 0 0, .bool false]) ∧ Below w.heap.size w w' := by
  have hmf : ∀ (fn : Fn) (first cap : Array Value) (w : World), (Instr.makeFunc fn first cap).run Tryd.prog w = .ok (.func fn first cap) w := fun _ _ _ _ => rfl
  go_enter_defers Tryd.func23, Tryd.ntmps23
  go_wp2_with fail
  refine (copied_any A l c _ ((hb.alloc _).alloc _) (by omega)).mono ?_
  rintro e w1 ⟨A', c', rfl, hown, hbel⟩
  go_wp2_with fail
  obtain ⟨hb1, _, hc1, hm1, hlo⟩ := Bs.of_own hown
  have hB : Blk w1 w.heap.size 23 _ := ((Blk.new w 23 _).alloc _).below hbel (by simp; omega)
  have hB' : Blk w1 (w.heap.size + 1) 4 _ := (Blk.at_ (w.alloc (.cells #[.slice none 0 0] 23)) 4 _ (by simp)).below hbel (by simp)
  have hkeep : Below w.heap.size w w1 := (((Below.refl _ _).alloc (Nat.le_refl _) _).alloc (by simp) _).trans (hbel.mono (by simp; omega))
  have hz1 : w.heap.size + 1 < w1.heap.size := hB'.lt
  have hE1 : Eofs w1 := (hE.below ((Below.refl _ _).alloc (Nat.le_refl _) _)).below ((Below.refl _ _).alloc (Nat.le_refl _) _) |>.below hbel
  refine (zzs_LoaderHeader32 A' l c' _ hE1 hb1 (fun b o h => (hlo b o h).2) hi hc1 hm1).mono ?_
  rintro e w2 ⟨⟨u, x, rfl⟩, hbel2⟩
  have hC := hB.below hbel2 (by omega)
  have hC' := hB'.below hbel2 (by omega)
  have hk2 : Below w.heap.size w w2 := hkeep.trans (hbel2.mono (by omega))
  have hz2 : w.heap.size + 1 < w2.heap.size := hC'.lt
  have hz3 : w.heap.size < w2.heap.size := hC.lt
  have c0 := hC.cell 0
  have c1 := hC'.cell 0
  have f0 := hC.frozen 0
  have f1 := hC'.frozen 0
  simp only [List.getElem?_toArray, List.getElem?_cons_zero] at c0 c1
  clear hb1 hlo hown hb hB hB' hkeep hbel hbel2
  generalize hg0 : w.heap.size = g0 at *
  have HG0 := Lib.hid hg0
  clear hg0
  clear hE hE1
  go_wp2_with fail
  have h0 := ((hC.set_ 0 (.slice none 0 0)).far (p := ⟨g0 + 1, 0, none⟩) (by simp) (.bool false)).alloc (.cells #[.int .u32 0, .int .u32 0, .int .u32 0, .int .u32 0, .int .u32 0, .int .u32 0, .int .u32 0, .int .u32 0] 60)
  have h1 := ((hC'.far (p := ⟨g0, 0, none⟩) (by simp) (.slice none 0 0)).set_ 0 (.bool false)).alloc (.cells #[.int .u32 0, .int .u32 0, .int .u32 0, .int .u32 0, .int .u32 0, .int .u32 0, .int .u32 0, .int .u32 0] 60)
  have hk9 : Below g0 w _ := ((hk2.setCell (p := ⟨g0, 0, none⟩) (Nat.le_refl _) (.slice none 0 0)).setCell (p := ⟨g0 + 1, 0, none⟩) (by simp) (.bool false)).alloc (by simp [World.setCell]; omega) (.cells #[.int .u32 0, .int .u32 0, .int .u32 0, .int .u32 0, .int .u32 0, .int .u32 0, .int .u32 0, .int .u32 0] 60)
  generalize ((w2.setCell ⟨g0, 0, none⟩ (.slice none 0 0)).setCell ⟨g0 + 1, 0, none⟩ (.bool false)).alloc (.cells #[.int .u32 0, .int .u32 0, .int .u32 0, .int .u32 0, .int .u32 0, .int .u32 0, .int .u32 0, .int .u32 0] 60) = w5 at h0 h1 hk9 ⊢
  simp only [List.setIfInBounds_toArray, List.set_cons_zero] at h0 h1
  refine leaves_cons (f := 42) (args := #[.pointer (some ⟨g0, 0, none⟩), .pointer (some ⟨g0 + 1, 0, none⟩)]) (by simp) (by simp [go_sem]) ?_
  refine (catch_LoaderHeader32 ⟨g0, 0, none⟩ ⟨g0 + 1, 0, none⟩ _).mono ?_
  rintro e u' w9 ⟨rfl, rfl, rfl⟩
  have d0 := h0.cell 0
  have d1 := h1.cell 0
  simp only [List.getElem?_toArray, List.getElem?_cons_zero] at d0 d1
  refine ⟨.tuple #[.slice none 0 0, .bool false], ?_, rfl, by rw [HG0.out]; exact hk9⟩
  simp [results, Tryd.results23, go_sem, d0, d1]
end Go.Proofs.YtngnocfmagmpmaaDoor
