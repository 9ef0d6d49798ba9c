/- impl.SectionHeader64: the numbers of the struct at the front of bytes, printed by program (gen/gen_impl.py). -/
import Derived.Test.YtjjpjobkdipahaaDoorZzSectionHeader64
import Derived.Test.YtjjpjobkdipahaaDoorCopied
import Derived.Test.YtjjpjobkdipahaaDoorFields
import Derived.Test.YtjjpjobkdipahaaDoorEight
import Derived.Deep.RegionHeld3
import Derived.Deep.AppendLies
import Derived.IntWalk
import Derived.Defers
import Derived.Recover
namespace Go.Proofs.YtjjpjobkdipahaaDoor
open Go.RowKit

/-- The deferred closure of a frame that returns: recover finds nothing. -/
theorem catch_SectionHeader64 (p q : Addr) (w : World) :
    CallsD Tryd.prog 17 #[.pointer (some p), .pointer (some q)] .returning w fun e u' w' => e = .returned (.tuple #[]) ∧ u' = .returning ∧ w' = w := by
  refine callsD_of_wpS Tryd.func17 rfl fun c₀ cs hu => ?_
  apply wpS_seq
  apply wpS_region
  simp [wpOpsS, go_sem, recoverD, hu, Tryd.ntmps17, Exit.thenS]
  refine wpS_cond (t := false) (by simp [Act.eval, Array.replicate]) ?_
  simp only [Bool.false_eq_true, if_false]
  refine wpS_of_wp (wp_skip ?_)
  cases c₀
  simp_all [bodyPostS, results, Tryd.results17]

set_option maxRecDepth 100000 in
set_option maxHeartbeats 1600000 in
theorem impl_SectionHeader64 (A : Option Addr) (l : List UInt8) (c : Nat) (w : World) (hb : Bs w A l) (hi : 72 ≤ l.length) (hl : l.length ≤ 2147483647) :
    Calls Tryd.prog 9 #[.slice A l.length c] w fun e w' => ∃ A' n' c', e = .returned (.tuple #[.slice A' n' c', .bool true]) ∧ Us w' A' [bev l 0 1, bev l 1 1, bev l 2 1, bev l 3 1, bev l 4 1, bev l 5 1, bev l 6 1, bev l 7 1, bev l 8 8, bev l 16 8, bev l 24 8, bev l 32 8, bev l 40 8, bev l 48 8, bev l 56 4, bev l 60 4, bev l 64 4, bev l 68 4] ∧ n' = 18 ∧ n' ≤ c' ∧ c' ≤ maxLen ∧ Below w.heap.size w w' := by
  have hmf : ∀ (fn : Fn) (first cap : Array Value) (w : World), (Instr.makeFunc fn first cap).run Tryd.prog w = .ok (.func fn first cap) w := fun _ _ _ _ => rfl
  go_enter_defers Tryd.func9, Tryd.ntmps9
  go_wp2_with fail
  refine (copied_any A l c _ ((hb.alloc _).alloc _) (by omega)).mono ?_
  rintro e w1 ⟨A', c', rfl, hown, hbel⟩
  go_wp2_with fail
  obtain ⟨hb1, _, hc1, hm1, hlo⟩ := Bs.of_own hown
  have hB : Blk w1 w.heap.size 23 _ := ((Blk.new w 23 _).alloc _).below hbel (by simp; omega)
  have hB' : Blk w1 (w.heap.size + 1) 4 _ := (Blk.at_ (w.alloc (.cells #[.slice none 0 0] 23)) 4 _ (by simp)).below hbel (by simp)
  have hkeep : Below w.heap.size w w1 := (((Below.refl _ _).alloc (Nat.le_refl _) _).alloc (by simp) _).trans (hbel.mono (by simp; omega))
  have hz1 : w.heap.size + 1 < w1.heap.size := hB'.lt
  refine (zz_SectionHeader64 A' l c' _ hb1 (fun b o h => (hlo b o h).2) hi hc1 hm1).mono ?_
  rintro e w2 ⟨rfl, hbel2⟩
  have hC := hB.below hbel2 (by omega)
  have hC' := hB'.below hbel2 (by omega)
  have hk2 : Below w.heap.size w w2 := hkeep.trans (hbel2.mono (by omega))
  have hz2 : w.heap.size + 1 < w2.heap.size := hC'.lt
  have hz3 : w.heap.size < w2.heap.size := hC.lt
  have c0 := hC.cell 0
  have c1 := hC'.cell 0
  have f0 := hC.frozen 0
  have f1 := hC'.frozen 0
  simp only [List.getElem?_toArray, List.getElem?_cons_zero] at c0 c1
  clear hb1 hlo hown hb hB hB' hkeep hbel hbel2
  have b0 : bev l 0 1 < 256 := bev_lt l 0 1
  have b1 : bev l 1 1 < 256 := bev_lt l 1 1
  have b2 : bev l 2 1 < 256 := bev_lt l 2 1
  have b3 : bev l 3 1 < 256 := bev_lt l 3 1
  have b4 : bev l 4 1 < 256 := bev_lt l 4 1
  have b5 : bev l 5 1 < 256 := bev_lt l 5 1
  have b6 : bev l 6 1 < 256 := bev_lt l 6 1
  have b7 : bev l 7 1 < 256 := bev_lt l 7 1
  have b14 : bev l 56 4 < 4294967296 := bev_lt l 56 4
  have b15 : bev l 60 4 < 4294967296 := bev_lt l 60 4
  have b16 : bev l 64 4 < 4294967296 := bev_lt l 64 4
  have b17 : bev l 68 4 < 4294967296 := bev_lt l 68 4
  go_wp2_with fail
  have hv := Blk.new w2 46 #[.int .u8 (bev l 0 1 : Nat), .int .u8 (bev l 1 1 : Nat), .int .u8 (bev l 2 1 : Nat), .int .u8 (bev l 3 1 : Nat), .int .u8 (bev l 4 1 : Nat), .int .u8 (bev l 5 1 : Nat), .int .u8 (bev l 6 1 : Nat), .int .u8 (bev l 7 1 : Nat), .int .u64 (bev l 8 8 : Nat), .int .u64 (bev l 16 8 : Nat), .int .u64 (bev l 24 8 : Nat), .int .u64 (bev l 32 8 : Nat), .int .u64 (bev l 40 8 : Nat), .int .u64 (bev l 48 8 : Nat), .int .u32 (bev l 56 4 : Nat), .int .u32 (bev l 60 4 : Nat), .int .u32 (bev l 64 4 : Nat), .int .u32 (bev l 68 4 : Nat)]
  have hD := hC.alloc (.cells #[.int .u8 (bev l 0 1 : Nat), .int .u8 (bev l 1 1 : Nat), .int .u8 (bev l 2 1 : Nat), .int .u8 (bev l 3 1 : Nat), .int .u8 (bev l 4 1 : Nat), .int .u8 (bev l 5 1 : Nat), .int .u8 (bev l 6 1 : Nat), .int .u8 (bev l 7 1 : Nat), .int .u64 (bev l 8 8 : Nat), .int .u64 (bev l 16 8 : Nat), .int .u64 (bev l 24 8 : Nat), .int .u64 (bev l 32 8 : Nat), .int .u64 (bev l 40 8 : Nat), .int .u64 (bev l 48 8 : Nat), .int .u32 (bev l 56 4 : Nat), .int .u32 (bev l 60 4 : Nat), .int .u32 (bev l 64 4 : Nat), .int .u32 (bev l 68 4 : Nat)] 46)
  have hD' := hC'.alloc (.cells #[.int .u8 (bev l 0 1 : Nat), .int .u8 (bev l 1 1 : Nat), .int .u8 (bev l 2 1 : Nat), .int .u8 (bev l 3 1 : Nat), .int .u8 (bev l 4 1 : Nat), .int .u8 (bev l 5 1 : Nat), .int .u8 (bev l 6 1 : Nat), .int .u8 (bev l 7 1 : Nat), .int .u64 (bev l 8 8 : Nat), .int .u64 (bev l 16 8 : Nat), .int .u64 (bev l 24 8 : Nat), .int .u64 (bev l 32 8 : Nat), .int .u64 (bev l 40 8 : Nat), .int .u64 (bev l 48 8 : Nat), .int .u32 (bev l 56 4 : Nat), .int .u32 (bev l 60 4 : Nat), .int .u32 (bev l 64 4 : Nat), .int .u32 (bev l 68 4 : Nat)] 46)
  have hk3 : Below w.heap.size w (w2.alloc (.cells #[.int .u8 (bev l 0 1 : Nat), .int .u8 (bev l 1 1 : Nat), .int .u8 (bev l 2 1 : Nat), .int .u8 (bev l 3 1 : Nat), .int .u8 (bev l 4 1 : Nat), .int .u8 (bev l 5 1 : Nat), .int .u8 (bev l 6 1 : Nat), .int .u8 (bev l 7 1 : Nat), .int .u64 (bev l 8 8 : Nat), .int .u64 (bev l 16 8 : Nat), .int .u64 (bev l 24 8 : Nat), .int .u64 (bev l 32 8 : Nat), .int .u64 (bev l 40 8 : Nat), .int .u64 (bev l 48 8 : Nat), .int .u32 (bev l 56 4 : Nat), .int .u32 (bev l 60 4 : Nat), .int .u32 (bev l 64 4 : Nat), .int .u32 (bev l 68 4 : Nat)] 46)) := hk2.alloc (by omega) _
  have hlt3 : w2.heap.size < (w2.alloc (.cells #[.int .u8 (bev l 0 1 : Nat), .int .u8 (bev l 1 1 : Nat), .int .u8 (bev l 2 1 : Nat), .int .u8 (bev l 3 1 : Nat), .int .u8 (bev l 4 1 : Nat), .int .u8 (bev l 5 1 : Nat), .int .u8 (bev l 6 1 : Nat), .int .u8 (bev l 7 1 : Nat), .int .u64 (bev l 8 8 : Nat), .int .u64 (bev l 16 8 : Nat), .int .u64 (bev l 24 8 : Nat), .int .u64 (bev l 32 8 : Nat), .int .u64 (bev l 40 8 : Nat), .int .u64 (bev l 48 8 : Nat), .int .u32 (bev l 56 4 : Nat), .int .u32 (bev l 60 4 : Nat), .int .u32 (bev l 64 4 : Nat), .int .u32 (bev l 68 4 : Nat)] 46)).heap.size := by simp
  have hlt0 : w.heap.size + 1 < w2.heap.size := hz2
  generalize w2.alloc (.cells #[.int .u8 (bev l 0 1 : Nat), .int .u8 (bev l 1 1 : Nat), .int .u8 (bev l 2 1 : Nat), .int .u8 (bev l 3 1 : Nat), .int .u8 (bev l 4 1 : Nat), .int .u8 (bev l 5 1 : Nat), .int .u8 (bev l 6 1 : Nat), .int .u8 (bev l 7 1 : Nat), .int .u64 (bev l 8 8 : Nat), .int .u64 (bev l 16 8 : Nat), .int .u64 (bev l 24 8 : Nat), .int .u64 (bev l 32 8 : Nat), .int .u64 (bev l 40 8 : Nat), .int .u64 (bev l 48 8 : Nat), .int .u32 (bev l 56 4 : Nat), .int .u32 (bev l 60 4 : Nat), .int .u32 (bev l 64 4 : Nat), .int .u32 (bev l 68 4 : Nat)] 46) = w3 at hv hD hD' hk3 hlt3 ⊢
  clear hC hC' hk2 hz1 hz2 hz3 c0 c1 f0 f1
  generalize w2.heap.size = g2 at hv hlt3 hlt0 ⊢
  generalize hg0 : w.heap.size = g0 at *
  have HG0 := Lib.hid hg0
  clear hg0
  have e0 := hv.cell 0
  have e1 := hv.cell 1
  have e2 := hv.cell 2
  have e3 := hv.cell 3
  have e4 := hv.cell 4
  have e5 := hv.cell 5
  have e6 := hv.cell 6
  have e7 := hv.cell 7
  have e8 := hv.cell 8
  have e9 := hv.cell 9
  have e10 := hv.cell 10
  have e11 := hv.cell 11
  have e12 := hv.cell 12
  have e13 := hv.cell 13
  have e14 := hv.cell 14
  have e15 := hv.cell 15
  have e16 := hv.cell 16
  have e17 := hv.cell 17
  simp only [List.getElem?_toArray, List.getElem?_cons_zero, List.getElem?_cons_succ] at e0 e1 e2 e3 e4 e5 e6 e7 e8 e9 e10 e11 e12 e13 e14 e15 e16 e17
  obtain ⟨i0, hi0, hs0, hs1, hs2⟩ := info_parts eight_u64
  have HI := Lib.hid (show Tryd.prog.info? 42 = some i0 ∧ i0.zero = some (.int .u64 0) ∧ i0.size = 1 ∧ i0.bytes = 8 from ⟨hi0, hs0, hs1, hs2⟩)
  clear hi0 hs0 hs1 hs2
  have q8 : IntKind.u64.wrap (bev l 8 8 : Nat) = (bev l 8 8 : Nat) := IntWalk.u64_in _ (by have := (bev_lt l 8 8 : bev l 8 8 < 18446744073709551616); omega)
  have q9 : IntKind.u64.wrap (bev l 16 8 : Nat) = (bev l 16 8 : Nat) := IntWalk.u64_in _ (by have := (bev_lt l 16 8 : bev l 16 8 < 18446744073709551616); omega)
  have q10 : IntKind.u64.wrap (bev l 24 8 : Nat) = (bev l 24 8 : Nat) := IntWalk.u64_in _ (by have := (bev_lt l 24 8 : bev l 24 8 < 18446744073709551616); omega)
  have q11 : IntKind.u64.wrap (bev l 32 8 : Nat) = (bev l 32 8 : Nat) := IntWalk.u64_in _ (by have := (bev_lt l 32 8 : bev l 32 8 < 18446744073709551616); omega)
  have q12 : IntKind.u64.wrap (bev l 40 8 : Nat) = (bev l 40 8 : Nat) := IntWalk.u64_in _ (by have := (bev_lt l 40 8 : bev l 40 8 < 18446744073709551616); omega)
  have q13 : IntKind.u64.wrap (bev l 48 8 : Nat) = (bev l 48 8 : Nat) := IntWalk.u64_in _ (by have := (bev_lt l 48 8 : bev l 48 8 < 18446744073709551616); omega)
  have q14 : IntKind.u64.wrap (bev l 56 4 : Nat) = (bev l 56 4 : Nat) := IntWalk.u64_in _ (by have := (bev_lt l 56 4 : bev l 56 4 < 4294967296); omega)
  have q15 : IntKind.u64.wrap (bev l 60 4 : Nat) = (bev l 60 4 : Nat) := IntWalk.u64_in _ (by have := (bev_lt l 60 4 : bev l 60 4 < 4294967296); omega)
  have q16 : IntKind.u64.wrap (bev l 64 4 : Nat) = (bev l 64 4 : Nat) := IntWalk.u64_in _ (by have := (bev_lt l 64 4 : bev l 64 4 < 4294967296); omega)
  have q17 : IntKind.u64.wrap (bev l 68 4 : Nat) = (bev l 68 4 : Nat) := IntWalk.u64_in _ (by have := (bev_lt l 68 4 : bev l 68 4 < 4294967296); omega)
  have hne1 : ¬ g2 = g0 := by omega
  have hne2 : ¬ g0 = g2 := by omega
  have hne3 : ¬ g2 = g0 + 1 := by omega
  have hne4 : ¬ g0 + 1 = g2 := by omega
  have hdr : Below w3.heap.size w3 w3.drew := ⟨rfl, rfl, rfl, Nat.le_refl _, fun _ _ => rfl⟩
  go_region_held3 (fun w' => w'.cell? ⟨g2, 0, none⟩ = some (.int .u8 (bev l 0 1 : Nat)) ∧ w'.cell? ⟨g2, 1, none⟩ = some (.int .u8 (bev l 1 1 : Nat)) ∧ w'.cell? ⟨g2, 2, none⟩ = some (.int .u8 (bev l 2 1 : Nat)) ∧ w'.cell? ⟨g2, 3, none⟩ = some (.int .u8 (bev l 3 1 : Nat)) ∧ w'.cell? ⟨g2, 4, none⟩ = some (.int .u8 (bev l 4 1 : Nat)) ∧ w'.cell? ⟨g2, 5, none⟩ = some (.int .u8 (bev l 5 1 : Nat)) ∧ w'.cell? ⟨g2, 6, none⟩ = some (.int .u8 (bev l 6 1 : Nat)) ∧ w'.cell? ⟨g2, 7, none⟩ = some (.int .u8 (bev l 7 1 : Nat)) ∧ w'.cell? ⟨g2, 8, none⟩ = some (.int .u64 (bev l 8 8 : Nat)) ∧ w'.cell? ⟨g2, 9, none⟩ = some (.int .u64 (bev l 16 8 : Nat)) ∧ w'.cell? ⟨g2, 10, none⟩ = some (.int .u64 (bev l 24 8 : Nat)) ∧ w'.cell? ⟨g2, 11, none⟩ = some (.int .u64 (bev l 32 8 : Nat)) ∧ w'.cell? ⟨g2, 12, none⟩ = some (.int .u64 (bev l 40 8 : Nat)) ∧ w'.cell? ⟨g2, 13, none⟩ = some (.int .u64 (bev l 48 8 : Nat)) ∧ w'.cell? ⟨g2, 14, none⟩ = some (.int .u32 (bev l 56 4 : Nat)) ∧ w'.cell? ⟨g2, 15, none⟩ = some (.int .u32 (bev l 60 4 : Nat)) ∧ w'.cell? ⟨g2, 16, none⟩ = some (.int .u32 (bev l 64 4 : Nat)) ∧ w'.cell? ⟨g2, 17, none⟩ = some (.int .u32 (bev l 68 4 : Nat)))
    (first
      | (refine ⟨?_, ?_, ?_, ?_, ?_, ?_, ?_, ?_, ?_, ?_, ?_, ?_, ?_, ?_, ?_, ?_, ?_, ?_⟩ <;> (rw [hB5.cell (by simp; omega)]; assumption))
      | (refine ⟨?_, ?_, ?_, ?_, ?_, ?_, ?_, ?_, ?_, ?_, ?_, ?_, ?_, ?_, ?_, ?_, ?_, ?_⟩ <;> (rw [hbel8.cell (by simp; omega)]; first | assumption | (go_keep; done)))
      | (go_keep; done))
    (first
      | (go_at_call 14
         refine (eight_any _ _ _ _ _ _ _ _ (bev_lt l 0 1) (bev_lt l 1 1) (bev_lt l 2 1) (bev_lt l 3 1) (bev_lt l 4 1) (bev_lt l 5 1) (bev_lt l 6 1) (bev_lt l 7 1) _).mono ?_
         rintro e w4 ⟨A8, c8, rfl, hown8, hbel8⟩)
      | (refine step_append_lies _ (by rfl) _ _ _ (by rfl) _ 42 i0 _ 1 8 Tryd.underlying23 HI.out.1 HI.out.2.1 HI.out.2.2.1 HI.out.2.2.2 rfl (by omega) _ 8 _ (by rfl) (hown8.alloc _) ⟨w4.heap.size, 0, none⟩ 10 10 [.int .u64 (bev l 8 8 : Nat), .int .u64 (bev l 16 8 : Nat), .int .u64 (bev l 24 8 : Nat), .int .u64 (bev l 32 8 : Nat), .int .u64 (bev l 40 8 : Nat), .int .u64 (bev l 48 8 : Nat), .int .u64 (bev l 56 4 : Nat), .int .u64 (bev l 60 4 : Nat), .int .u64 (bev l 64 4 : Nat), .int .u64 (bev l 68 4 : Nat)] (by rfl) (by rfl) (World.news_of_block (cs := #[.int .u64 (bev l 8 8 : Nat), .int .u64 (bev l 16 8 : Nat), .int .u64 (bev l 24 8 : Nat), .int .u64 (bev l 32 8 : Nat), .int .u64 (bev l 40 8 : Nat), .int .u64 (bev l 48 8 : Nat), .int .u64 (bev l 56 4 : Nat), .int .u64 (bev l 60 4 : Nat), .int .u64 (bev l 64 4 : Nat), .int .u64 (bev l 68 4 : Nat)]) (t := 42) (fr := (0, 0)) (heap_alloc_new w4 _)) (by simp [Value.oneCell']) (by omega) (by decide) (by omega) (by have := hbel8.size; simp at this ⊢; omega) _ rfl ?_
         intro gg cap w5 hown5 hgrow _ _
         have hB5 : Below w3.heap.size w3 w5 := ((hdr.trans hbel8).alloc hbel8.size _).grown hgrow (by have := hbel8.size; simp at this ⊢; omega) (own_base hown8)
         have r0 := (hD.below hB5 (by omega)).cell 0
         have s0 := (hD.below hB5 (by omega)).frozen 0
         have r1 := (hD'.below hB5 (by omega)).cell 0
         have s1 := (hD'.below hB5 (by omega)).frozen 0
         simp only [List.getElem?_toArray, List.getElem?_cons_zero] at r0 r1)
      | (refine step_append_lies _ (by rfl) _ _ _ (by rfl) _ 42 i0 _ 1 8 Tryd.underlying23 HI.out.1 HI.out.2.1 HI.out.2.2.1 HI.out.2.2.2 rfl (by omega) _ 8 _ (by rfl) hown8 ⟨w3.heap.size, 0, none⟩ 10 10 [.int .u64 (bev l 8 8 : Nat), .int .u64 (bev l 16 8 : Nat), .int .u64 (bev l 24 8 : Nat), .int .u64 (bev l 32 8 : Nat), .int .u64 (bev l 40 8 : Nat), .int .u64 (bev l 48 8 : Nat), .int .u64 (bev l 56 4 : Nat), .int .u64 (bev l 60 4 : Nat), .int .u64 (bev l 64 4 : Nat), .int .u64 (bev l 68 4 : Nat)] (by rfl) (by rfl) (World.news_of_block (cs := #[.int .u64 (bev l 8 8 : Nat), .int .u64 (bev l 16 8 : Nat), .int .u64 (bev l 24 8 : Nat), .int .u64 (bev l 32 8 : Nat), .int .u64 (bev l 40 8 : Nat), .int .u64 (bev l 48 8 : Nat), .int .u64 (bev l 56 4 : Nat), .int .u64 (bev l 60 4 : Nat), .int .u64 (bev l 64 4 : Nat), .int .u64 (bev l 68 4 : Nat)]) (t := 42) (fr := (0, 0)) ((hbel8.block w3.heap.size (by simp)).trans (heap_alloc_new w3.drew _))) (by simp [Value.oneCell']) (by omega) (by decide) (by omega) (by exact hbel8.size) _ rfl ?_
         intro gg cap w5 hown5 hgrow _ _
         have hB5 : Below w3.heap.size w3 w5 := (((hdr.alloc (Nat.le_refl _) _).trans (hbel8.mono (by simp))).grown hgrow (by have := hbel8.size; simp at this ⊢; omega) (fun k hk => by have := own_base hown8 k hk; simp at this; omega))
         have r0 := (hD.below hB5 (by omega)).cell 0
         have s0 := (hD.below hB5 (by omega)).frozen 0
         have r1 := (hD'.below hB5 (by omega)).cell 0
         have s1 := (hD'.below hB5 (by omega)).frozen 0
         simp only [List.getElem?_toArray, List.getElem?_cons_zero] at r0 r1))
  all_goals
    go_wp2_with fail
    obtain ⟨hu5, _, hc5, hm5, hlo5⟩ := Us.of_own (l := [bev l 0 1, bev l 1 1, bev l 2 1, bev l 3 1, bev l 4 1, bev l 5 1, bev l 6 1, bev l 7 1, bev l 8 8, bev l 16 8, bev l 24 8, bev l 32 8, bev l 40 8, bev l 48 8, bev l 56 4, bev l 60 4, bev l 64 4, bev l 68 4]) (show w5.ownsRow _ 42 1 (.slice (some ⟨gg, 0, none⟩) 18 cap) 18 (uvs [bev l 0 1, bev l 1 1, bev l 2 1, bev l 3 1, bev l 4 1, bev l 5 1, bev l 6 1, bev l 7 1, bev l 8 8, bev l 16 8, bev l 24 8, bev l 32 8, bev l 40 8, bev l 48 8, bev l 56 4, bev l 60 4, bev l 64 4, bev l 68 4]) from hown5)
    have hgg : w3.heap.size ≤ gg := by have := (hlo5 gg 0 rfl).1; simp at this; omega
    have h0 := ((hD.below hB5 (by omega)).set_ 0 (.slice (some ⟨gg, 0, none⟩) 18 cap)).far (p := ⟨g0 + 1, 0, none⟩) (by simp) (.bool true)
    have h1 := ((hD'.below hB5 (by omega)).far (p := ⟨g0, 0, none⟩) (by simp) (.slice (some ⟨gg, 0, none⟩) 18 cap)).set_ 0 (.bool true)
    have hk9 : Below g0 w _ := ((hk3.trans (hB5.mono (by omega))).setCell (p := ⟨g0, 0, none⟩) (Nat.le_refl _) (.slice (some ⟨gg, 0, none⟩) 18 cap)).setCell (p := ⟨g0 + 1, 0, none⟩) (by simp) (.bool true)
    have hu9 : Us ((w5.setCell ⟨g0, 0, none⟩ (.slice (some ⟨gg, 0, none⟩) 18 cap)).setCell ⟨g0 + 1, 0, none⟩ (.bool true)) (some ⟨gg, 0, none⟩) [bev l 0 1, bev l 1 1, bev l 2 1, bev l 3 1, bev l 4 1, bev l 5 1, bev l 6 1, bev l 7 1, bev l 8 8, bev l 16 8, bev l 24 8, bev l 32 8, bev l 40 8, bev l 48 8, bev l 56 4, bev l 60 4, bev l 64 4, bev l 68 4] := hu5.keep (by simp [World.setCell]) (fun b o he _ => by
      injection he with he
      injection he with he1
      subst he1
      rw [Below.heap_setCell _ _ _ _ (by simp; omega), Below.heap_setCell _ _ _ _ (by simp; omega)])
    generalize (w5.setCell ⟨g0, 0, none⟩ (.slice (some ⟨gg, 0, none⟩) 18 cap)).setCell ⟨g0 + 1, 0, none⟩ (.bool true) = w6 at h0 h1 hk9 hu9 ⊢
    simp only [List.setIfInBounds_toArray, List.set_cons_zero] at h0 h1
    refine leaves_cons (f := 17) (args := #[.pointer (some ⟨g0, 0, none⟩), .pointer (some ⟨g0 + 1, 0, none⟩)]) (by simp) (by simp [go_sem]) ?_
    refine (catch_SectionHeader64 ⟨g0, 0, none⟩ ⟨g0 + 1, 0, none⟩ _).mono ?_
    rintro e u' w9 ⟨rfl, rfl, rfl⟩
    have d0 := h0.cell 0
    have d1 := h1.cell 0
    simp only [List.getElem?_toArray, List.getElem?_cons_zero] at d0 d1
    refine ⟨.tuple #[.slice (some ⟨gg, 0, none⟩) 18 cap, .bool true], ?_, some ⟨gg, 0, none⟩, 18, cap, rfl, hu9, rfl, hc5, hm5, by rw [HG0.out]; exact hk9⟩
    simp [results, Tryd.results9, go_sem, d0, d1]

set_option maxRecDepth 100000 in
set_option maxHeartbeats 1600000 in
theorem impls_SectionHeader64 (A : Option Addr) (l : List UInt8) (c : Nat) (w : World) (hE : Eofs w) (hb : Bs w A l) (hi : l.length < 72) :
    Calls Tryd.prog 9 #[.slice A l.length c] w fun e w' => e = .returned (.tuple #[.slice none 0 0, .bool false]) ∧ Below w.heap.size w w' := by
  have hmf : ∀ (fn : Fn) (first cap : Array Value) (w : World), (Instr.makeFunc fn first cap).run Tryd.prog w = .ok (.func fn first cap) w := fun _ _ _ _ => rfl
  go_enter_defers Tryd.func9, Tryd.ntmps9
  go_wp2_with fail
  refine (copied_any A l c _ ((hb.alloc _).alloc _) (by omega)).mono ?_
  rintro e w1 ⟨A', c', rfl, hown, hbel⟩
  go_wp2_with fail
  obtain ⟨hb1, _, hc1, hm1, hlo⟩ := Bs.of_own hown
  have hB : Blk w1 w.heap.size 23 _ := ((Blk.new w 23 _).alloc _).below hbel (by simp; omega)
  have hB' : Blk w1 (w.heap.size + 1) 4 _ := (Blk.at_ (w.alloc (.cells #[.slice none 0 0] 23)) 4 _ (by simp)).below hbel (by simp)
  have hkeep : Below w.heap.size w w1 := (((Below.refl _ _).alloc (Nat.le_refl _) _).alloc (by simp) _).trans (hbel.mono (by simp; omega))
  have hz1 : w.heap.size + 1 < w1.heap.size := hB'.lt
  have hE1 : Eofs w1 := (hE.below ((Below.refl _ _).alloc (Nat.le_refl _) _)).below ((Below.refl _ _).alloc (Nat.le_refl _) _) |>.below hbel
  refine (zzs_SectionHeader64 A' l c' _ hE1 hb1 (fun b o h => (hlo b o h).2) hi hc1 hm1).mono ?_
  rintro e w2 ⟨⟨u, x, rfl⟩, hbel2⟩
  have hC := hB.below hbel2 (by omega)
  have hC' := hB'.below hbel2 (by omega)
  have hk2 : Below w.heap.size w w2 := hkeep.trans (hbel2.mono (by omega))
  have hz2 : w.heap.size + 1 < w2.heap.size := hC'.lt
  have hz3 : w.heap.size < w2.heap.size := hC.lt
  have c0 := hC.cell 0
  have c1 := hC'.cell 0
  have f0 := hC.frozen 0
  have f1 := hC'.frozen 0
  simp only [List.getElem?_toArray, List.getElem?_cons_zero] at c0 c1
  clear hb1 hlo hown hb hB hB' hkeep hbel hbel2
  generalize hg0 : w.heap.size = g0 at *
  have HG0 := Lib.hid hg0
  clear hg0
  clear hE hE1
  go_wp2_with fail
  have h0 := ((hC.set_ 0 (.slice none 0 0)).far (p := ⟨g0 + 1, 0, none⟩) (by simp) (.bool false)).alloc (.cells #[.int .u8 0, .int .u8 0, .int .u8 0, .int .u8 0, .int .u8 0, .int .u8 0, .int .u8 0, .int .u8 0, .int .u64 0, .int .u64 0, .int .u64 0, .int .u64 0, .int .u64 0, .int .u64 0, .int .u32 0, .int .u32 0, .int .u32 0, .int .u32 0] 46)
  have h1 := ((hC'.far (p := ⟨g0, 0, none⟩) (by simp) (.slice none 0 0)).set_ 0 (.bool false)).alloc (.cells #[.int .u8 0, .int .u8 0, .int .u8 0, .int .u8 0, .int .u8 0, .int .u8 0, .int .u8 0, .int .u8 0, .int .u64 0, .int .u64 0, .int .u64 0, .int .u64 0, .int .u64 0, .int .u64 0, .int .u32 0, .int .u32 0, .int .u32 0, .int .u32 0] 46)
  have hk9 : Below g0 w _ := ((hk2.setCell (p := ⟨g0, 0, none⟩) (Nat.le_refl _) (.slice none 0 0)).setCell (p := ⟨g0 + 1, 0, none⟩) (by simp) (.bool false)).alloc (by simp [World.setCell]; omega) (.cells #[.int .u8 0, .int .u8 0, .int .u8 0, .int .u8 0, .int .u8 0, .int .u8 0, .int .u8 0, .int .u8 0, .int .u64 0, .int .u64 0, .int .u64 0, .int .u64 0, .int .u64 0, .int .u64 0, .int .u32 0, .int .u32 0, .int .u32 0, .int .u32 0] 46)
  generalize ((w2.setCell ⟨g0, 0, none⟩ (.slice none 0 0)).setCell ⟨g0 + 1, 0, none⟩ (.bool false)).alloc (.cells #[.int .u8 0, .int .u8 0, .int .u8 0, .int .u8 0, .int .u8 0, .int .u8 0, .int .u8 0, .int .u8 0, .int .u64 0, .int .u64 0, .int .u64 0, .int .u64 0, .int .u64 0, .int .u64 0, .int .u32 0, .int .u32 0, .int .u32 0, .int .u32 0] 46) = w5 at h0 h1 hk9 ⊢
  simp only [List.setIfInBounds_toArray, List.set_cons_zero] at h0 h1
  refine leaves_cons (f := 17) (args := #[.pointer (some ⟨g0, 0, none⟩), .pointer (some ⟨g0 + 1, 0, none⟩)]) (by simp) (by simp [go_sem]) ?_
  refine (catch_SectionHeader64 ⟨g0, 0, none⟩ ⟨g0 + 1, 0, none⟩ _).mono ?_
  rintro e u' w9 ⟨rfl, rfl, rfl⟩
  have d0 := h0.cell 0
  have d1 := h1.cell 0
  simp only [List.getElem?_toArray, List.getElem?_cons_zero] at d0 d1
  refine ⟨.tuple #[.slice none 0 0, .bool false], ?_, rfl, by rw [HG0.out]; exact hk9⟩
  simp [results, Tryd.results9, go_sem, d0, d1]
end Go.Proofs.YtjjpjobkdipahaaDoor
