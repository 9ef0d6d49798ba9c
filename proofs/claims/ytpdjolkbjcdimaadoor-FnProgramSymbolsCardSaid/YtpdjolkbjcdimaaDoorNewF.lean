/- plan9obj.NewFile over a program's bytes, printed by program (gen/gen_newfile.py). -/
import Derived.Test.YtpdjolkbjcdimaaDoorSects
import Derived.Deep.RegionHeld3
namespace Go.Proofs.YtpdjolkbjcdimaaDoor
open Go.RowKit

theorem Sects.lower {gr lo lo' ga h k : Nat} {sz : List Nat} {w : World} (hs : Sects gr lo ga h sz k w) (hl : lo' ≤ lo) : Sects gr lo' ga h sz k w := by
  obtain ⟨gxs, h1, h2, h3⟩ := hs
  refine ⟨gxs, h1, h2, fun j gx nm m q1 q2 q3 => ?_⟩
  obtain ⟨p1, gs, p2, p3⟩ := h3 j gx nm m q1 q2 q3
  exact ⟨by omega, gs, by omega, p3⟩
/-- What NewFile hands back. -/
def NewOk (gr hdr ptr load M B E : Nat) (sz : List Nat) (w : World) (e : Ending) (w' : World) : Prop := ∃ gf ga : Nat, e = .returned (.tuple #[.pointer (some ⟨gf, 0, none⟩), .nilIface]) ∧
  Blk w' gf 67 #[.int .u32 (M : Nat), .int .u32 (B : Nat), .int .u64 (E : Nat), .int .i64 (ptr : Nat), .int .u64 (load : Nat), .int .u64 (hdr : Nat), .slice (some ⟨ga, 0, none⟩) 5 5] ∧
  Sects gr w.heap.size ga hdr sz 5 w' ∧ w.heap.size ≤ gf ∧ w.heap.size ≤ ga ∧ Keeps (fun _ => False) w w'

theorem newSection_first (gr : Nat) (w : World) :
    Calls Tryd.prog 45 #[.iface 95 (.pointer (some ⟨gr, 0, none⟩)), .int .i64 0, .int .i64 9223372036854775807] w fun e w' => e = .returned (.pointer (some ⟨w.heap.size, 0, none⟩)) ∧
      w' = w.alloc (.cells (srCells gr 0 0 9223372036854775807 9223372036854775807) 140) :=
  (newSection_any ⟨gr, 0, none⟩ 0 9223372036854775807 w (by omega)).mono fun e w' ⟨h1, h2⟩ => ⟨h1, by rw [h2]; rfl⟩

set_option maxRecDepth 100000 in
set_option maxHeartbeats 1600000 in
theorem newFile_narrow (gr c : Nat) (x y : Value) (A : Option Addr) (l : List UInt8) (w : World) (M T D B S E P Q : Nat)
    (hr : Blk w gr 112 #[.slice A l.length c, x, y]) (hb : Bs w A l) (hc : l.length ≤ c)
    (hM : bev l 0 4 = M) (hT : bev l 4 4 = T) (hD : bev l 8 4 = D) (hB : bev l 12 4 = B) (hS : bev l 16 4 = S) (hE : bev l 20 4 = E) (hP : bev l 24 4 = P) (hQ : bev l 28 4 = Q)
    (hk : M = 491 ∨ M = 1607) (hlen : 32 ≤ l.length) (hsum : 40 + (T + (D + (S + (P + Q)))) ≤ 1000000) :
    Calls Tryd.prog 37 #[.iface 95 (.pointer (some ⟨gr, 0, none⟩))] w (NewOk gr 32 4 4096 M B E [T, D, S, P, Q] w) := by
  have hk3 : M = 491 ∨ M = 35479 ∨ M = 1607 := by omega
  have hand : bits BinOp.and IntKind.u32 (M : Int) 32768 = 0 := by
    rcases hk with rfl | rfl
    all_goals decide
  have hna := nilAhead_readAt
  have hme := method_readAt
  have HH := Lib.hid (show _ ∧ _ from ⟨hr, hb⟩)
  have HV := Lib.hid (show _ ∧ _ ∧ _ ∧ _ ∧ _ ∧ _ ∧ _ ∧ _ from ⟨hM, hT, hD, hB, hS, hE, hP, hQ⟩)
  have hgr := hr.lt
  clear hr hb hM hT hD hB hS hE hP hQ hk
  go_enter Tryd.func37, Tryd.ntmps37
  go_wp2_with fail
  refine (newSection_first gr w).mono ?_
  rintro e w1 ⟨rfl, rfl⟩
  go_wp2_with fail
  go_region_with (go_at_call 76; refine (rdAt_all gr (w.heap.size + 1) 4 4 0 c 114 x y A l #[.int .u8 0, .int .u8 0, .int .u8 0, .int .u8 0] _ ?_ ?_ ?_ (by omega) (by omega) hc rfl).mono ?_; exact ((HH.out.1.alloc _).alloc _); exact ((HH.out.2.alloc _).alloc _); exact (Blk.at_ _ _ _ (by simp)); rintro e w1 ⟨rfl, hg1, hK1⟩)
  have hs1 : Blk w1 w.heap.size 140 (srCells gr 0 0 9223372036854775807 9223372036854775807) := (((Blk.new w 140 _).alloc _).drewN _).keeps hK1 (fun h => by
    have h' : w.heap.size = w.heap.size + 1 := h
    omega)
  have hkk : Keeps (fun _ => False) w w1 := ((((Keeps.refl (fun _ => False) w).alloc _).alloc _).drewN _).step hK1 (fun i hi h => by
    have h' : i = w.heap.size + 1 := h
    omega)
  have hr1 := HH.out.1.keeps hkk (fun h => h)
  have hb1 := HH.out.2.keeps hkk (fun _ _ _ _ h => h)
  have HW := Lib.hid (show _ ∧ _ ∧ _ ∧ _ from ⟨hs1, hr1, hb1, hkk⟩)
  have hg0 := hs1.lt
  have hst := hg1.stand (N := 4) (by simp; omega) 0 4 (by omega)
  have hm4 : bev (List.take 4 (List.drop 0 l)) 0 4 = M := by rw [List.drop_zero, bev_take _ _ _ _ (by omega)]; exact HV.out.1
  clear hs1 hr1 hb1 hK1 hg1 hna hme
  have HBW := Lib.hid HH.out.2
  have hle := hkk.size
  generalize hwg : w.heap.size = g0 at *
  go_wp2_with fail
  refine (parse_ok (g0 + 1) _ w1 hst M hm4 hk3).mono ?_
  rintro e w2 ⟨rfl, k2, rfl⟩
  clear hst hm4 hkk HH
  go_wp2_with fail
  refine (readS_Prog g0 gr w1.heap.size 0 0 c 9223372036854775807 9223372036854775807 x y A l _ (Blk.at_ (w1.drewN k2) _ _ rfl) ((HW.out.1.drewN k2).alloc _) ((HW.out.2.1.drewN k2).alloc _) ((HW.out.2.2.1.drewN k2).alloc _) (by omega) (by omega) hc (by omega) (by omega)).mono ?_
  rintro e w3 ⟨rfl, hp3, hs3, hK3⟩
  rw [List.drop_zero, bev_take _ _ _ _ (by omega), bev_take _ _ _ _ (by omega), bev_take _ _ _ _ (by omega), bev_take _ _ _ _ (by omega), bev_take _ _ _ _ (by omega), bev_take _ _ _ _ (by omega), bev_take _ _ _ _ (by omega), bev_take _ _ _ _ (by omega),
    HV.out.1, HV.out.2.1, HV.out.2.2.1, HV.out.2.2.2.1, HV.out.2.2.2.2.1, HV.out.2.2.2.2.2.1, HV.out.2.2.2.2.2.2.1, HV.out.2.2.2.2.2.2.2] at hp3
  have hK13 : Keeps (fun i => i = g0) w1 w3 := ((((Keeps.refl (fun i => i = g0) w1).drewN k2).alloc _)).step hK3 (fun i hi h => by
    have h' : i = w1.heap.size ∨ i = g0 := h
    rcases h' with h' | h'
    · omega
    · exact h')
  have hr3 := HW.out.2.1.keeps hK13 (fun h => by
    have h' : gr = g0 := h
    omega)
  have hK03 : Keeps (fun _ => False) w w3 := HW.out.2.2.2.step hK13 (fun i hi h => by
    have h' : i = g0 := h
    omega)
  have hb3 := HBW.out.keeps hK03 (fun _ _ _ _ h => h)
  have hg1 := hp3.lt
  have HW3 := Lib.hid (show _ ∧ _ ∧ _ ∧ _ from ⟨hs3, hr3, hb3, hK03⟩)
  have d0 := hp3.cell 0
  have d1 := hp3.cell 1
  have d2 := hp3.cell 2
  have d3 := hp3.cell 3
  have d4 := hp3.cell 4
  have d5 := hp3.cell 5
  have d6 := hp3.cell 6
  have d7 := hp3.cell 7
  simp only [List.getElem?_toArray, List.getElem?_cons_zero, List.getElem?_cons_succ] at d0 d1 d2 d3 d4 d5 d6 d7
  have HP3 := Lib.hid hp3
  generalize w1.heap.size = g1 at *
  clear hp3 hs3 hr3 hb3 hK3 hK13 hK03
  have q5 : IntKind.u64.wrap (E : Int) = (E : Int) := IntWalk.u64_in _ (by have := bev_lt l 20 4; have := HV.out.2.2.2.2.2.1; omega)
  go_wp2_with fail
  go_region_held3 (fun w' => w'.cell? ⟨g1, 0, none⟩ = some (.int .u32 (M : Nat)) ∧ w'.cell? ⟨g1, 3, none⟩ = some (.int .u32 (B : Nat)) ∧ w'.cell? ⟨g1, 5, none⟩ = some (.int .u32 (E : Nat))) (go_keep) (fail)
  have hF4 : Blk (w3.alloc (Obj.cells #[.int .u32 (M : Nat), .int .u32 (B : Nat), .int .u64 (E : Nat), .int .i64 4, .int .u64 4096, .int .u64 32, .slice none 0 0] 67)).drew w3.heap.size 67 #[.int .u32 (M : Nat), .int .u32 (B : Nat), .int .u64 (E : Nat), .int .i64 4, .int .u64 4096, .int .u64 32, .slice none 0 0] := (Blk.new w3 _ _).drewN 1
  have hK34 : Keeps (fun _ => False) w3 (w3.alloc (Obj.cells #[.int .u32 (M : Nat), .int .u32 (B : Nat), .int .u64 (E : Nat), .int .i64 4, .int .u64 4096, .int .u64 32, .slice none 0 0] 67)).drew := ((Keeps.refl (fun _ => False) w3).alloc _).drew
  generalize (w3.alloc (Obj.cells #[.int .u32 (M : Nat), .int .u32 (B : Nat), .int .u64 (E : Nat), .int .i64 4, .int .u64 4096, .int .u64 32, .slice none 0 0] 67)).drew = w4 at hF4 hK34 ⊢
  have hp4 := HP3.out.keeps hK34 (fun h => h)
  have hs4 := HW3.out.1.keeps hK34 (fun h => h)
  have hr4 := HW3.out.2.1.keeps hK34 (fun h => h)
  have hb4 := HW3.out.2.2.1.keeps hK34 (fun _ _ _ _ h => h)
  have hkk4 := HW3.out.2.2.2.trans hK34
  generalize hgf : w3.heap.size = gf at *
  clear d0 d1 d2 d3 d4 d5 d6 d7 HP3 HW3 HW hK34 q5
  have d0 := hp4.cell 0
  simp only [List.getElem?_toArray, List.getElem?_cons_zero] at d0
  obtain ⟨hF5, hp5, hr5, hb5, hkk5⟩ : Blk w4 gf 67 #[.int .u32 (M : Nat), .int .u32 (B : Nat), .int .u64 (E : Nat), .int .i64 4, .int .u64 4096, .int .u64 32, .slice none 0 0] ∧ _ ∧ _ ∧ _ ∧ _ := ⟨hF4, hp4, hr4, hb4, hkk4⟩
  clear hF4 hp4 hs4 hr4 hb4 hkk4
  go_wp2_with fail
  have HW5 := Lib.hid (show _ ∧ _ ∧ _ ∧ _ ∧ _ from ⟨hF5, hp5, hr5, hb5, hkk5⟩)
  clear hF5 hr5 hb5 hkk5
  have d1 := hp5.cell 1
  have d2 := hp5.cell 2
  have d4 := hp5.cell 4
  have d6 := hp5.cell 6
  have d7 := hp5.cell 7
  simp only [List.getElem?_toArray, List.getElem?_cons_zero, List.getElem?_cons_succ] at d1 d2 d4 d6 d7
  clear hp5
  go_region_held3 (fun w' => w'.cell? ⟨g1, 1, none⟩ = some (.int .u32 (T : Nat)) ∧ w'.cell? ⟨g1, 2, none⟩ = some (.int .u32 (D : Nat)) ∧ w'.cell? ⟨g1, 4, none⟩ = some (.int .u32 (S : Nat)) ∧ w'.cell? ⟨g1, 6, none⟩ = some (.int .u32 (P : Nat)) ∧ w'.cell? ⟨g1, 7, none⟩ = some (.int .u32 (Q : Nat))) (go_keep) (fail)
  have hT6 : Blk (w4.alloc (Obj.cells #[.string ⟨#[116, 101, 120, 116]⟩, .int .u32 (T : Nat), .string ⟨#[100, 97, 116, 97]⟩, .int .u32 (D : Nat), .string ⟨#[115, 121, 109, 115]⟩, .int .u32 (S : Nat), .string ⟨#[115, 112, 115, 122]⟩, .int .u32 (P : Nat), .string ⟨#[112, 99, 115, 122]⟩, .int .u32 (Q : Nat)] 120)).drew w4.heap.size 120 #[.string ⟨#[116, 101, 120, 116]⟩, .int .u32 (T : Nat), .string ⟨#[100, 97, 116, 97]⟩, .int .u32 (D : Nat), .string ⟨#[115, 121, 109, 115]⟩, .int .u32 (S : Nat), .string ⟨#[115, 112, 115, 122]⟩, .int .u32 (P : Nat), .string ⟨#[112, 99, 115, 122]⟩, .int .u32 (Q : Nat)] := (Blk.new w4 _ _).drewN 1
  have hK56 : Keeps (fun _ => False) w4 (w4.alloc (Obj.cells #[.string ⟨#[116, 101, 120, 116]⟩, .int .u32 (T : Nat), .string ⟨#[100, 97, 116, 97]⟩, .int .u32 (D : Nat), .string ⟨#[115, 121, 109, 115]⟩, .int .u32 (S : Nat), .string ⟨#[115, 112, 115, 122]⟩, .int .u32 (P : Nat), .string ⟨#[112, 99, 115, 122]⟩, .int .u32 (Q : Nat)] 120)).drew := ((Keeps.refl (fun _ => False) w4).alloc _).drew
  have hz6 : (w4.alloc (Obj.cells #[.string ⟨#[116, 101, 120, 116]⟩, .int .u32 (T : Nat), .string ⟨#[100, 97, 116, 97]⟩, .int .u32 (D : Nat), .string ⟨#[115, 121, 109, 115]⟩, .int .u32 (S : Nat), .string ⟨#[115, 112, 115, 122]⟩, .int .u32 (P : Nat), .string ⟨#[112, 99, 115, 122]⟩, .int .u32 (Q : Nat)] 120)).drew.heap.size = w4.heap.size + 1 := by
    show (w4.alloc _).heap.size = _
    simp
  generalize (w4.alloc (Obj.cells #[.string ⟨#[116, 101, 120, 116]⟩, .int .u32 (T : Nat), .string ⟨#[100, 97, 116, 97]⟩, .int .u32 (D : Nat), .string ⟨#[115, 121, 109, 115]⟩, .int .u32 (S : Nat), .string ⟨#[115, 112, 115, 122]⟩, .int .u32 (P : Nat), .string ⟨#[112, 99, 115, 122]⟩, .int .u32 (Q : Nat)] 120)).drew = w6 at hT6 hK56 hz6 ⊢
  have hF6 := HW5.out.1.keeps hK56 (fun h => h)
  have hr6 := HW5.out.2.2.1.keeps hK56 (fun h => h)
  have hkk6 := HW5.out.2.2.2.2.trans hK56
  have hgf5 := HW5.out.1.lt
  generalize hgt : w4.heap.size = gt at *
  clear d0 d1 d2 d4 d6 d7 HW5 hK56
  have e5 := hF6.cell 5
  have e6 := hF6.cell 6
  have f6 := hF6.frozen 6
  simp only [List.getElem?_toArray, List.getElem?_cons_zero, List.getElem?_cons_succ] at e5 e6
  have hmk5 : ∀ w : World, (Instr.makeSlice 65 (.int .i64 5) (.int .i64 5)).run Tryd.prog w = .ok (.slice (some ⟨w.heap.size, 0, none⟩) 5 5) (w.alloc (.cells #[.pointer none, .pointer none, .pointer none, .pointer none, .pointer none] 68)) := fun _ => by kernel_rfl
  go_wp2_with fail
  have hF7 := (hF6.set_ 6 (.slice (some ⟨gt + 1, 0, none⟩) 5 5)).alloc (.cells #[.pointer none, .pointer none, .pointer none, .pointer none, .pointer none] 68)
  have hT7 := (hT6.far (p := ⟨gf, 6, none⟩) (by dsimp only; omega) (.slice (some ⟨gt + 1, 0, none⟩) 5 5)).alloc (.cells #[.pointer none, .pointer none, .pointer none, .pointer none, .pointer none] 68)
  have hA7 : Blk ((w6.setCell ⟨gf, 6, none⟩ (.slice (some ⟨gt + 1, 0, none⟩) 5 5)).alloc (.cells #[.pointer none, .pointer none, .pointer none, .pointer none, .pointer none] 68)) (gt + 1) _ _ := Blk.at_ (w6.setCell ⟨gf, 6, none⟩ (.slice (some ⟨gt + 1, 0, none⟩) 5 5)) _ _ (by simp [World.setCell, hz6])
  have hz7 : ((w6.setCell ⟨gf, 6, none⟩ (.slice (some ⟨gt + 1, 0, none⟩) 5 5)).alloc (.cells #[.pointer none, .pointer none, .pointer none, .pointer none, .pointer none] 68)).heap.size = gt + 2 := by simp [World.setCell, hz6]
  have hkk7 := (hkk6.setCell (p := ⟨gf, 6, none⟩) (fun h => by dsimp only at h; omega) (.slice (some ⟨gt + 1, 0, none⟩) 5 5)).alloc (.cells #[.pointer none, .pointer none, .pointer none, .pointer none, .pointer none] 68)
  generalize (w6.setCell ⟨gf, 6, none⟩ (.slice (some ⟨gt + 1, 0, none⟩) 5 5)).alloc (.cells #[.pointer none, .pointer none, .pointer none, .pointer none, .pointer none] 68) = w7 at hF7 hT7 hA7 hz7 hkk7 ⊢
  simp only [List.setIfInBounds_toArray, List.set_cons_succ, List.set_cons_zero] at hF7
  clear hF6 hT6 hr6 hkk6 e5 e6 f6 hz6
  have HW7 := Lib.hid (show _ ∧ _ ∧ _ from ⟨hF7, hT7, hkk7⟩)
  have HA7 := Lib.hid hA7
  clear hF7 hT7 hkk7 hA7
  go_loopw [15, 137] (fun off i wr => ∃ k : Nat, k ≤ 5 ∧ i = .int .i64 k ∧ off = .int .u32 (offAt 32 [T, D, S, P, Q] k : Nat) ∧ Sects gr (gt + 2) (gt + 1) 32 [T, D, S, P, Q] k wr ∧ Keeps (fun b => b = gt + 1) w7 wr) (fun _ i _ => 5 - (intOf i).toNat)
  case atStart => exact ⟨0, by omega, rfl, rfl, Sects.zero _ _ _ _ _ _ HA7.out, Keeps.refl _ _⟩
  case round =>
    obtain ⟨k, hk5, rfl, rfl, hsec, hkr⟩ := hrel
    have HSEC := Lib.hid (show _ ∧ _ from ⟨hsec, hkr⟩)
    have hszr := hkr.size
    have hk3 : (0 : Int) ≤ (k : Int) := by omega
    clear hsec hkr
    by_cases hlt : k < 5
    · obtain ⟨nm, m, hnm, hm, e0, e1⟩ := sect_cells (HW7.out.2.1.keeps HSEC.out.2 (fun h => by
        have h' : gt = gt + 1 := h
        omega)) k hlt
      have hof : offAt 32 [T, D, S, P, Q] k + m ≤ 1000000 := by
        have h1 := offAt_succ 32 _ k m hm
        have h2 := offAt_le 32 [T, D, S, P, Q] (k + 1)
        simp only [List.sum_cons, List.sum_nil] at h2
        omega
      generalize hofe : offAt 32 [T, D, S, P, Q] k = off at hof ⊢
      have q1 : IntKind.i64.wrap (off : Int) = (off : Int) := IntWalk.i64_in _ (by omega)
      have q2 : IntKind.i64.wrap (m : Int) = (m : Int) := IntWalk.i64_in _ (by omega)
      have q3 : (off : Int) + (m : Int) ≤ 4294967295 := by omega
      have hA := HSEC.out.1
      have hFr := HW7.out.1.keeps HSEC.out.2 (fun h => by
        have h' : gf = gt + 1 := h
        omega)
      have e6 := hFr.cell 6
      simp only [List.getElem?_toArray, List.getElem?_cons_zero, List.getElem?_cons_succ] at e6
      clear hFr hA
      go_wp2_with fail
      have hB8 : Blk ((wr.alloc (Obj.cells #[.string nm, .int .u32 (m : Nat)] 120)).alloc (Obj.cells #[.string nm, .int .u32 (m : Nat), .int .u32 (off : Nat), .nilIface, .pointer none] 77)) (wr.heap.size + 1) 77 #[.string nm, .int .u32 (m : Nat), .int .u32 (off : Nat), .nilIface, .pointer none] := Blk.at_ _ _ _ (by simp)
      have hz8 : ((wr.alloc (Obj.cells #[.string nm, .int .u32 (m : Nat)] 120)).alloc (Obj.cells #[.string nm, .int .u32 (m : Nat), .int .u32 (off : Nat), .nilIface, .pointer none] 77)).heap.size = wr.heap.size + 2 := by simp
      have hK8 : Keeps (fun _ => False) wr ((wr.alloc (Obj.cells #[.string nm, .int .u32 (m : Nat)] 120)).alloc (Obj.cells #[.string nm, .int .u32 (m : Nat), .int .u32 (off : Nat), .nilIface, .pointer none] 77)) := ((Keeps.refl (fun _ => False) wr).alloc _).alloc _
      generalize ((wr.alloc (Obj.cells #[.string nm, .int .u32 (m : Nat)] 120)).alloc (Obj.cells #[.string nm, .int .u32 (m : Nat), .int .u32 (off : Nat), .nilIface, .pointer none] 77)) = w8 at hB8 hz8 hK8 ⊢
      have hfr8 := HW7.out.1.keeps (HSEC.out.2.trans (hK8.mono (fun i h => h.elim))) (fun h => by
        have h' : gf = gt + 1 := h
        omega)
      have e6 := hfr8.cell 6
      have x1 := hB8.cell 1
      have x2 := hB8.cell 2
      have x3 := hB8.cell 3
      have x4 := hB8.cell 4
      have y3 := hB8.frozen 3
      have y4 := hB8.frozen 4
      simp only [List.getElem?_toArray, List.getElem?_cons_zero, List.getElem?_cons_succ] at e6 x1 x2 x3 x4
      obtain ⟨ucs, hArr⟩ : ∃ cs : Array Value, Blk wr (gt + 1) 68 cs ∧ cs.size = 5 := by
        obtain ⟨gxs, h1, h2, _⟩ := HSEC.out.1
        exact ⟨_, h2, by simp [h1]; omega⟩
      have hA8 := hArr.1.keeps hK8 (fun h => h)
      have z0 := hA8.cell k
      have z1 := hA8.frozen k
      obtain ⟨uk, huk⟩ : ∃ u, ucs[k]? = some u := ⟨_, Array.getElem?_eq_getElem (show k < ucs.size by omega)⟩
      rw [huk] at z0
      have HB8 := Lib.hid hB8
      have HK8 := Lib.hid hK8
      generalize hn : wr.heap.size = n at *
      clear hArr hB8 hK8 e0 e1
      have e6x : ((((w8.setCell ⟨n + 1, 4, none⟩ (.pointer (some ⟨n + 2, 0, none⟩))).setCell ⟨n + 1, 3, none⟩ (.iface 75 (.pointer (some ⟨n + 2, 0, none⟩)))).alloc (Obj.cells #[.iface 95 (.pointer (some ⟨gr, 0, none⟩)), .int .i64 (off : Nat), .int .i64 (off : Nat), .int .i64 ((m : Int) + (off : Int)), .int .i64 (m : Nat)] 140)).drew).cell? ⟨gf, 6, none⟩ = some (.slice (some ⟨gt + 1, 0, none⟩) 5 5) := ((((hfr8.far (p := ⟨n + 1, 4, none⟩) (by dsimp only; omega) _).far (p := ⟨n + 1, 3, none⟩) (by dsimp only; omega) _).alloc _).drewN 1).cell 6
      have z0x : ((((w8.setCell ⟨n + 1, 4, none⟩ (.pointer (some ⟨n + 2, 0, none⟩))).setCell ⟨n + 1, 3, none⟩ (.iface 75 (.pointer (some ⟨n + 2, 0, none⟩)))).alloc (Obj.cells #[.iface 95 (.pointer (some ⟨gr, 0, none⟩)), .int .i64 (off : Nat), .int .i64 (off : Nat), .int .i64 ((m : Int) + (off : Int)), .int .i64 (m : Nat)] 140)).drew).cell? ⟨gt + 1, k, none⟩ = some uk := (((((hA8.far (p := ⟨n + 1, 4, none⟩) (by dsimp only; omega) _).far (p := ⟨n + 1, 3, none⟩) (by dsimp only; omega) _).alloc _).drewN 1).cell k).trans huk
      have z1x : ((((w8.setCell ⟨n + 1, 4, none⟩ (.pointer (some ⟨n + 2, 0, none⟩))).setCell ⟨n + 1, 3, none⟩ (.iface 75 (.pointer (some ⟨n + 2, 0, none⟩)))).alloc (Obj.cells #[.iface 95 (.pointer (some ⟨gr, 0, none⟩)), .int .i64 (off : Nat), .int .i64 (off : Nat), .int .i64 ((m : Int) + (off : Int)), .int .i64 (m : Nat)] 140)).drew).frozen? ⟨gt + 1, k, none⟩ = false := ((((hA8.far (p := ⟨n + 1, 4, none⟩) (by dsimp only; omega) _).far (p := ⟨n + 1, 3, none⟩) (by dsimp only; omega) _).alloc _).drewN 1).frozen k
      clear hfr8 hA8 huk
      go_region_with (go_at_call 45; refine (newSection_any ⟨gr, 0, none⟩ off m _ (by omega)).mono ?_; rintro e wx ⟨rfl, rfl⟩)
      all_goals
        go_wp2_with fail
        have hKx : Keeps (fun b => b = gt + 1) wr (((((w8.setCell ⟨n + 1, 4, none⟩ (.pointer (some ⟨n + 2, 0, none⟩))).setCell ⟨n + 1, 3, none⟩ (.iface 75 (.pointer (some ⟨n + 2, 0, none⟩)))).alloc (Obj.cells #[.iface 95 (.pointer (some ⟨gr, 0, none⟩)), .int .i64 (off : Nat), .int .i64 (off : Nat), .int .i64 ((m : Int) + (off : Int)), .int .i64 (m : Nat)] 140)).setCell ⟨gt + 1, k, none⟩ (.pointer (some ⟨n + 1, 0, none⟩))).drew) := ((((((HK8.out.mono (T := fun b => b = gt + 1) (fun i h => h.elim)).setCell (p := ⟨n + 1, 4, none⟩) (fun h => by dsimp only at h; omega) _).setCell (p := ⟨n + 1, 3, none⟩) (fun h => by dsimp only at h; omega) _).alloc _).setCell (p := ⟨gt + 1, k, none⟩) (fun _ => rfl) _).drew)
        have hx1 : Blk (((((w8.setCell ⟨n + 1, 4, none⟩ (.pointer (some ⟨n + 2, 0, none⟩))).setCell ⟨n + 1, 3, none⟩ (.iface 75 (.pointer (some ⟨n + 2, 0, none⟩)))).alloc (Obj.cells #[.iface 95 (.pointer (some ⟨gr, 0, none⟩)), .int .i64 (off : Nat), .int .i64 (off : Nat), .int .i64 ((m : Int) + (off : Int)), .int .i64 (m : Nat)] 140)).setCell ⟨gt + 1, k, none⟩ (.pointer (some ⟨n + 1, 0, none⟩))).drew) (n + 1) 77 (secCells nm m off (n + 2)) := (((((HB8.out.set_ 4 (.pointer (some ⟨n + 2, 0, none⟩))).set_ 3 (.iface 75 (.pointer (some ⟨n + 2, 0, none⟩)))).alloc _).far (p := ⟨gt + 1, k, none⟩) (by dsimp only; omega) _).drewN 1)
        have hx2 : Blk (((((w8.setCell ⟨n + 1, 4, none⟩ (.pointer (some ⟨n + 2, 0, none⟩))).setCell ⟨n + 1, 3, none⟩ (.iface 75 (.pointer (some ⟨n + 2, 0, none⟩)))).alloc (Obj.cells #[.iface 95 (.pointer (some ⟨gr, 0, none⟩)), .int .i64 (off : Nat), .int .i64 (off : Nat), .int .i64 ((m : Int) + (off : Int)), .int .i64 (m : Nat)] 140)).setCell ⟨gt + 1, k, none⟩ (.pointer (some ⟨n + 1, 0, none⟩))).drew) (n + 2) 140 (srCells gr off off ((m : Int) + (off : Int)) m) := ((Blk.at_ _ _ _ (by simp [World.setCell, hz8])).far (p := ⟨gt + 1, k, none⟩) (by dsimp only; omega) _).drewN 1
        refine ⟨⟨k + 1, by omega, by go_num, by rw [offAt_succ _ _ k m hm, hofe]; simp, HSEC.out.1.snoc hlt hnm hm hKx (fun b hb1 _ hb2 => by
          have h' : b = gt + 1 := hb2
          omega) (fun cs h => ((((((h.keeps HK8.out (fun h => h)).far (p := ⟨n + 1, 4, none⟩) (by dsimp only; omega) _).far (p := ⟨n + 1, 3, none⟩) (by dsimp only; omega) _).alloc _).set_ k _).drewN 1)) ?_, HSEC.out.2.trans hKx⟩, by simp [intOf]; omega⟩
        rw [hofe]
        exact ⟨by omega, n + 2, by omega, hx1, hx2⟩
    · obtain rfl : k = 5 := by omega
      go_wp2_with fail
      go_ret2
      exact ⟨gf, gt + 1, by simp, HW7.out.1.keeps HSEC.out.2 (fun h => by
        have h' : gf = gt + 1 := h
        omega), HSEC.out.1.lower (by omega), by omega, by omega, HW7.out.2.2.step HSEC.out.2 (fun i hi h => by
        have h' : i = gt + 1 := h
        omega)⟩

set_option maxRecDepth 100000 in
set_option maxHeartbeats 1600000 in
theorem newFile_wide (gr c : Nat) (x y : Value) (A : Option Addr) (l : List UInt8) (w : World) (M T D B S E P Q : Nat)
    (hr : Blk w gr 112 #[.slice A l.length c, x, y]) (hb : Bs w A l) (hc : l.length ≤ c)
    (hM : bev l 0 4 = M) (hT : bev l 4 4 = T) (hD : bev l 8 4 = D) (hB : bev l 12 4 = B) (hS : bev l 16 4 = S) (hE : bev l 20 4 = E) (hP : bev l 24 4 = P) (hQ : bev l 28 4 = Q)
    (hk : M = 35479) (X : Nat) (hX : bev ((l.drop 32).take 8) 0 8 = X) (hlen : 40 ≤ l.length) (hsum : 40 + (T + (D + (S + (P + Q)))) ≤ 1000000) :
    Calls Tryd.prog 37 #[.iface 95 (.pointer (some ⟨gr, 0, none⟩))] w (NewOk gr 40 8 2097152 M B X [T, D, S, P, Q] w) := by
  have hk3 : M = 491 ∨ M = 35479 ∨ M = 1607 := by omega
  have hand : bits BinOp.and IntKind.u32 (M : Int) 32768 = 32768 := by
    subst hk
    decide
  have hna := nilAhead_readAt
  have hme := method_readAt
  have HH := Lib.hid (show _ ∧ _ from ⟨hr, hb⟩)
  have HV := Lib.hid (show _ ∧ _ ∧ _ ∧ _ ∧ _ ∧ _ ∧ _ ∧ _ from ⟨hM, hT, hD, hB, hS, hE, hP, hQ⟩)
  have hgr := hr.lt
  have HX := Lib.hid hX
  clear hX
  clear hr hb hM hT hD hB hS hE hP hQ hk
  go_enter Tryd.func37, Tryd.ntmps37
  go_wp2_with fail
  refine (newSection_first gr w).mono ?_
  rintro e w1 ⟨rfl, rfl⟩
  go_wp2_with fail
  go_region_with (go_at_call 76; refine (rdAt_all gr (w.heap.size + 1) 4 4 0 c 114 x y A l #[.int .u8 0, .int .u8 0, .int .u8 0, .int .u8 0] _ ?_ ?_ ?_ (by omega) (by omega) hc rfl).mono ?_; exact ((HH.out.1.alloc _).alloc _); exact ((HH.out.2.alloc _).alloc _); exact (Blk.at_ _ _ _ (by simp)); rintro e w1 ⟨rfl, hg1, hK1⟩)
  have hs1 : Blk w1 w.heap.size 140 (srCells gr 0 0 9223372036854775807 9223372036854775807) := (((Blk.new w 140 _).alloc _).drewN _).keeps hK1 (fun h => by
    have h' : w.heap.size = w.heap.size + 1 := h
    omega)
  have hkk : Keeps (fun _ => False) w w1 := ((((Keeps.refl (fun _ => False) w).alloc _).alloc _).drewN _).step hK1 (fun i hi h => by
    have h' : i = w.heap.size + 1 := h
    omega)
  have hr1 := HH.out.1.keeps hkk (fun h => h)
  have hb1 := HH.out.2.keeps hkk (fun _ _ _ _ h => h)
  have HW := Lib.hid (show _ ∧ _ ∧ _ ∧ _ from ⟨hs1, hr1, hb1, hkk⟩)
  have hg0 := hs1.lt
  have hst := hg1.stand (N := 4) (by simp; omega) 0 4 (by omega)
  have hm4 : bev (List.take 4 (List.drop 0 l)) 0 4 = M := by rw [List.drop_zero, bev_take _ _ _ _ (by omega)]; exact HV.out.1
  clear hs1 hr1 hb1 hK1 hg1 hna hme
  have HBW := Lib.hid HH.out.2
  have hle := hkk.size
  generalize hwg : w.heap.size = g0 at *
  go_wp2_with fail
  refine (parse_ok (g0 + 1) _ w1 hst M hm4 hk3).mono ?_
  rintro e w2 ⟨rfl, k2, rfl⟩
  clear hst hm4 hkk HH
  go_wp2_with fail
  refine (readS_Prog g0 gr w1.heap.size 0 0 c 9223372036854775807 9223372036854775807 x y A l _ (Blk.at_ (w1.drewN k2) _ _ rfl) ((HW.out.1.drewN k2).alloc _) ((HW.out.2.1.drewN k2).alloc _) ((HW.out.2.2.1.drewN k2).alloc _) (by omega) (by omega) hc (by omega) (by omega)).mono ?_
  rintro e w3 ⟨rfl, hp3, hs3, hK3⟩
  rw [List.drop_zero, bev_take _ _ _ _ (by omega), bev_take _ _ _ _ (by omega), bev_take _ _ _ _ (by omega), bev_take _ _ _ _ (by omega), bev_take _ _ _ _ (by omega), bev_take _ _ _ _ (by omega), bev_take _ _ _ _ (by omega), bev_take _ _ _ _ (by omega),
    HV.out.1, HV.out.2.1, HV.out.2.2.1, HV.out.2.2.2.1, HV.out.2.2.2.2.1, HV.out.2.2.2.2.2.1, HV.out.2.2.2.2.2.2.1, HV.out.2.2.2.2.2.2.2] at hp3
  have hK13 : Keeps (fun i => i = g0) w1 w3 := ((((Keeps.refl (fun i => i = g0) w1).drewN k2).alloc _)).step hK3 (fun i hi h => by
    have h' : i = w1.heap.size ∨ i = g0 := h
    rcases h' with h' | h'
    · omega
    · exact h')
  have hr3 := HW.out.2.1.keeps hK13 (fun h => by
    have h' : gr = g0 := h
    omega)
  have hK03 : Keeps (fun _ => False) w w3 := HW.out.2.2.2.step hK13 (fun i hi h => by
    have h' : i = g0 := h
    omega)
  have hb3 := HBW.out.keeps hK03 (fun _ _ _ _ h => h)
  have hg1 := hp3.lt
  have HW3 := Lib.hid (show _ ∧ _ ∧ _ ∧ _ from ⟨hs3, hr3, hb3, hK03⟩)
  have d0 := hp3.cell 0
  have d1 := hp3.cell 1
  have d2 := hp3.cell 2
  have d3 := hp3.cell 3
  have d4 := hp3.cell 4
  have d5 := hp3.cell 5
  have d6 := hp3.cell 6
  have d7 := hp3.cell 7
  simp only [List.getElem?_toArray, List.getElem?_cons_zero, List.getElem?_cons_succ] at d0 d1 d2 d3 d4 d5 d6 d7
  have HP3 := Lib.hid hp3
  generalize w1.heap.size = g1 at *
  clear hp3 hs3 hr3 hb3 hK3 hK13 hK03
  have q5 : IntKind.u64.wrap (E : Int) = (E : Int) := IntWalk.u64_in _ (by have := bev_lt l 20 4; have := HV.out.2.2.2.2.2.1; omega)
  go_wp2_with fail
  go_region_held3 (fun w' => w'.cell? ⟨g1, 0, none⟩ = some (.int .u32 (M : Nat)) ∧ w'.cell? ⟨g1, 3, none⟩ = some (.int .u32 (B : Nat)) ∧ w'.cell? ⟨g1, 5, none⟩ = some (.int .u32 (E : Nat))) (go_keep) (fail)
  have hF4 : Blk (w3.alloc (Obj.cells #[.int .u32 (M : Nat), .int .u32 (B : Nat), .int .u64 (E : Nat), .int .i64 4, .int .u64 4096, .int .u64 32, .slice none 0 0] 67)).drew w3.heap.size 67 #[.int .u32 (M : Nat), .int .u32 (B : Nat), .int .u64 (E : Nat), .int .i64 4, .int .u64 4096, .int .u64 32, .slice none 0 0] := (Blk.new w3 _ _).drewN 1
  have hK34 : Keeps (fun _ => False) w3 (w3.alloc (Obj.cells #[.int .u32 (M : Nat), .int .u32 (B : Nat), .int .u64 (E : Nat), .int .i64 4, .int .u64 4096, .int .u64 32, .slice none 0 0] 67)).drew := ((Keeps.refl (fun _ => False) w3).alloc _).drew
  generalize (w3.alloc (Obj.cells #[.int .u32 (M : Nat), .int .u32 (B : Nat), .int .u64 (E : Nat), .int .i64 4, .int .u64 4096, .int .u64 32, .slice none 0 0] 67)).drew = w4 at hF4 hK34 ⊢
  have hp4 := HP3.out.keeps hK34 (fun h => h)
  have hs4 := HW3.out.1.keeps hK34 (fun h => h)
  have hr4 := HW3.out.2.1.keeps hK34 (fun h => h)
  have hb4 := HW3.out.2.2.1.keeps hK34 (fun _ _ _ _ h => h)
  have hkk4 := HW3.out.2.2.2.trans hK34
  generalize hgf : w3.heap.size = gf at *
  clear d0 d1 d2 d3 d4 d5 d6 d7 HP3 HW3 HW hK34 q5
  have d0 := hp4.cell 0
  simp only [List.getElem?_toArray, List.getElem?_cons_zero] at d0
  go_wp2_with fail
  refine (readNum_any g0 gr gf 2 67 0 32 c 9223372036854775807 9223372036854775807 x y E #[.int .u32 (M : Nat), .int .u32 (B : Nat), .int .u64 (E : Nat), .int .i64 4, .int .u64 4096, .int .u64 32, .slice none 0 0] A l w4 hF4 rfl hs4 hr4 hb4 (by omega) (by omega) hc (by omega) (by omega)).mono ?_
  rintro e w45 ⟨rfl, hF45, hs45, hK45⟩
  rw [HX.out] at hF45
  simp only [List.setIfInBounds_toArray, List.set_cons_succ, List.set_cons_zero] at hF45
  have hp45 := hp4.keeps hK45 (fun h => by
    have h' : g1 = gf ∨ g1 = g0 := h
    omega)
  have hr45 := hr4.keeps hK45 (fun h => by
    have h' : gr = gf ∨ gr = g0 := h
    omega)
  have hkk45 : Keeps (fun _ => False) w w45 := hkk4.step hK45 (fun i hi h => by
    have h' : i = gf ∨ i = g0 := h
    omega)
  have hb45 := HBW.out.keeps hkk45 (fun _ _ _ _ h => h)
  clear hF4 hp4 hs4 hr4 hb4 hkk4 hK45 d0
  have e3 := hF45.cell 3
  have e4 := hF45.cell 4
  have e5 := hF45.cell 5
  have f3 := hF45.frozen 3
  have f4 := hF45.frozen 4
  have f5 := hF45.frozen 5
  simp only [List.getElem?_toArray, List.getElem?_cons_zero, List.getElem?_cons_succ] at e3 e4 e5
  go_wp2_with fail
  have hF5 := ((hF45.set_ 3 (.int .i64 8)).set_ 4 (.int .u64 2097152)).set_ 5 (.int .u64 40)
  have hp5 := ((hp45.far (p := ⟨gf, 3, none⟩) (by dsimp only; omega) (.int .i64 8)).far (p := ⟨gf, 4, none⟩) (by dsimp only; omega) (.int .u64 2097152)).far (p := ⟨gf, 5, none⟩) (by dsimp only; omega) (.int .u64 40)
  have hr5 := ((hr45.far (p := ⟨gf, 3, none⟩) (by dsimp only; omega) (.int .i64 8)).far (p := ⟨gf, 4, none⟩) (by dsimp only; omega) (.int .u64 2097152)).far (p := ⟨gf, 5, none⟩) (by dsimp only; omega) (.int .u64 40)
  have hkk5 : Keeps (fun _ => False) w _ := ((hkk45.setCell (p := ⟨gf, 3, none⟩) (fun h => by dsimp only at h; omega) (.int .i64 8)).setCell (p := ⟨gf, 4, none⟩) (fun h => by dsimp only at h; omega) (.int .u64 2097152)).setCell (p := ⟨gf, 5, none⟩) (fun h => by dsimp only at h; omega) (.int .u64 40)
  have hb5 := HBW.out.keeps hkk5 (fun _ _ _ _ h => h)
  clear e3 e4 e5 f3 f4 f5 hF45 hp45 hs45 hr45 hkk45 hb45
  generalize ((w45.setCell ⟨gf, 3, none⟩ (.int .i64 8)).setCell ⟨gf, 4, none⟩ (.int .u64 2097152)).setCell ⟨gf, 5, none⟩ (.int .u64 40) = w5 at hF5 hp5 hr5 hb5 hkk5 ⊢
  simp only [List.setIfInBounds_toArray, List.set_cons_succ, List.set_cons_zero] at hF5
  have HW5 := Lib.hid (show _ ∧ _ ∧ _ ∧ _ ∧ _ from ⟨hF5, hp5, hr5, hb5, hkk5⟩)
  clear hF5 hr5 hb5 hkk5
  have d1 := hp5.cell 1
  have d2 := hp5.cell 2
  have d4 := hp5.cell 4
  have d6 := hp5.cell 6
  have d7 := hp5.cell 7
  simp only [List.getElem?_toArray, List.getElem?_cons_zero, List.getElem?_cons_succ] at d1 d2 d4 d6 d7
  clear hp5
  go_region_held3 (fun w' => w'.cell? ⟨g1, 1, none⟩ = some (.int .u32 (T : Nat)) ∧ w'.cell? ⟨g1, 2, none⟩ = some (.int .u32 (D : Nat)) ∧ w'.cell? ⟨g1, 4, none⟩ = some (.int .u32 (S : Nat)) ∧ w'.cell? ⟨g1, 6, none⟩ = some (.int .u32 (P : Nat)) ∧ w'.cell? ⟨g1, 7, none⟩ = some (.int .u32 (Q : Nat))) (go_keep) (fail)
  have hT6 : Blk (w5.alloc (Obj.cells #[.string ⟨#[116, 101, 120, 116]⟩, .int .u32 (T : Nat), .string ⟨#[100, 97, 116, 97]⟩, .int .u32 (D : Nat), .string ⟨#[115, 121, 109, 115]⟩, .int .u32 (S : Nat), .string ⟨#[115, 112, 115, 122]⟩, .int .u32 (P : Nat), .string ⟨#[112, 99, 115, 122]⟩, .int .u32 (Q : Nat)] 120)).drew w5.heap.size 120 #[.string ⟨#[116, 101, 120, 116]⟩, .int .u32 (T : Nat), .string ⟨#[100, 97, 116, 97]⟩, .int .u32 (D : Nat), .string ⟨#[115, 121, 109, 115]⟩, .int .u32 (S : Nat), .string ⟨#[115, 112, 115, 122]⟩, .int .u32 (P : Nat), .string ⟨#[112, 99, 115, 122]⟩, .int .u32 (Q : Nat)] := (Blk.new w5 _ _).drewN 1
  have hK56 : Keeps (fun _ => False) w5 (w5.alloc (Obj.cells #[.string ⟨#[116, 101, 120, 116]⟩, .int .u32 (T : Nat), .string ⟨#[100, 97, 116, 97]⟩, .int .u32 (D : Nat), .string ⟨#[115, 121, 109, 115]⟩, .int .u32 (S : Nat), .string ⟨#[115, 112, 115, 122]⟩, .int .u32 (P : Nat), .string ⟨#[112, 99, 115, 122]⟩, .int .u32 (Q : Nat)] 120)).drew := ((Keeps.refl (fun _ => False) w5).alloc _).drew
  have hz6 : (w5.alloc (Obj.cells #[.string ⟨#[116, 101, 120, 116]⟩, .int .u32 (T : Nat), .string ⟨#[100, 97, 116, 97]⟩, .int .u32 (D : Nat), .string ⟨#[115, 121, 109, 115]⟩, .int .u32 (S : Nat), .string ⟨#[115, 112, 115, 122]⟩, .int .u32 (P : Nat), .string ⟨#[112, 99, 115, 122]⟩, .int .u32 (Q : Nat)] 120)).drew.heap.size = w5.heap.size + 1 := by
    show (w5.alloc _).heap.size = _
    simp
  generalize (w5.alloc (Obj.cells #[.string ⟨#[116, 101, 120, 116]⟩, .int .u32 (T : Nat), .string ⟨#[100, 97, 116, 97]⟩, .int .u32 (D : Nat), .string ⟨#[115, 121, 109, 115]⟩, .int .u32 (S : Nat), .string ⟨#[115, 112, 115, 122]⟩, .int .u32 (P : Nat), .string ⟨#[112, 99, 115, 122]⟩, .int .u32 (Q : Nat)] 120)).drew = w6 at hT6 hK56 hz6 ⊢
  have hF6 := HW5.out.1.keeps hK56 (fun h => h)
  have hr6 := HW5.out.2.2.1.keeps hK56 (fun h => h)
  have hkk6 := HW5.out.2.2.2.2.trans hK56
  have hgf5 := HW5.out.1.lt
  generalize hgt : w5.heap.size = gt at *
  clear d1 d2 d4 d6 d7 HW5 hK56
  have e5 := hF6.cell 5
  have e6 := hF6.cell 6
  have f6 := hF6.frozen 6
  simp only [List.getElem?_toArray, List.getElem?_cons_zero, List.getElem?_cons_succ] at e5 e6
  have hmk5 : ∀ w : World, (Instr.makeSlice 65 (.int .i64 5) (.int .i64 5)).run Tryd.prog w = .ok (.slice (some ⟨w.heap.size, 0, none⟩) 5 5) (w.alloc (.cells #[.pointer none, .pointer none, .pointer none, .pointer none, .pointer none] 68)) := fun _ => by kernel_rfl
  go_wp2_with fail
  have hF7 := (hF6.set_ 6 (.slice (some ⟨gt + 1, 0, none⟩) 5 5)).alloc (.cells #[.pointer none, .pointer none, .pointer none, .pointer none, .pointer none] 68)
  have hT7 := (hT6.far (p := ⟨gf, 6, none⟩) (by dsimp only; omega) (.slice (some ⟨gt + 1, 0, none⟩) 5 5)).alloc (.cells #[.pointer none, .pointer none, .pointer none, .pointer none, .pointer none] 68)
  have hA7 : Blk ((w6.setCell ⟨gf, 6, none⟩ (.slice (some ⟨gt + 1, 0, none⟩) 5 5)).alloc (.cells #[.pointer none, .pointer none, .pointer none, .pointer none, .pointer none] 68)) (gt + 1) _ _ := Blk.at_ (w6.setCell ⟨gf, 6, none⟩ (.slice (some ⟨gt + 1, 0, none⟩) 5 5)) _ _ (by simp [World.setCell, hz6])
  have hz7 : ((w6.setCell ⟨gf, 6, none⟩ (.slice (some ⟨gt + 1, 0, none⟩) 5 5)).alloc (.cells #[.pointer none, .pointer none, .pointer none, .pointer none, .pointer none] 68)).heap.size = gt + 2 := by simp [World.setCell, hz6]
  have hkk7 := (hkk6.setCell (p := ⟨gf, 6, none⟩) (fun h => by dsimp only at h; omega) (.slice (some ⟨gt + 1, 0, none⟩) 5 5)).alloc (.cells #[.pointer none, .pointer none, .pointer none, .pointer none, .pointer none] 68)
  generalize (w6.setCell ⟨gf, 6, none⟩ (.slice (some ⟨gt + 1, 0, none⟩) 5 5)).alloc (.cells #[.pointer none, .pointer none, .pointer none, .pointer none, .pointer none] 68) = w7 at hF7 hT7 hA7 hz7 hkk7 ⊢
  simp only [List.setIfInBounds_toArray, List.set_cons_succ, List.set_cons_zero] at hF7
  clear hF6 hT6 hr6 hkk6 e5 e6 f6 hz6
  have HW7 := Lib.hid (show _ ∧ _ ∧ _ from ⟨hF7, hT7, hkk7⟩)
  have HA7 := Lib.hid hA7
  clear hF7 hT7 hkk7 hA7
  go_loopw [15, 137] (fun off i wr => ∃ k : Nat, k ≤ 5 ∧ i = .int .i64 k ∧ off = .int .u32 (offAt 40 [T, D, S, P, Q] k : Nat) ∧ Sects gr (gt + 2) (gt + 1) 40 [T, D, S, P, Q] k wr ∧ Keeps (fun b => b = gt + 1) w7 wr) (fun _ i _ => 5 - (intOf i).toNat)
  case atStart => exact ⟨0, by omega, rfl, rfl, Sects.zero _ _ _ _ _ _ HA7.out, Keeps.refl _ _⟩
  case round =>
    obtain ⟨k, hk5, rfl, rfl, hsec, hkr⟩ := hrel
    have HSEC := Lib.hid (show _ ∧ _ from ⟨hsec, hkr⟩)
    have hszr := hkr.size
    have hk3 : (0 : Int) ≤ (k : Int) := by omega
    clear hsec hkr
    by_cases hlt : k < 5
    · obtain ⟨nm, m, hnm, hm, e0, e1⟩ := sect_cells (HW7.out.2.1.keeps HSEC.out.2 (fun h => by
        have h' : gt = gt + 1 := h
        omega)) k hlt
      have hof : offAt 40 [T, D, S, P, Q] k + m ≤ 1000000 := by
        have h1 := offAt_succ 40 _ k m hm
        have h2 := offAt_le 40 [T, D, S, P, Q] (k + 1)
        simp only [List.sum_cons, List.sum_nil] at h2
        omega
      generalize hofe : offAt 40 [T, D, S, P, Q] k = off at hof ⊢
      have q1 : IntKind.i64.wrap (off : Int) = (off : Int) := IntWalk.i64_in _ (by omega)
      have q2 : IntKind.i64.wrap (m : Int) = (m : Int) := IntWalk.i64_in _ (by omega)
      have q3 : (off : Int) + (m : Int) ≤ 4294967295 := by omega
      have hA := HSEC.out.1
      have hFr := HW7.out.1.keeps HSEC.out.2 (fun h => by
        have h' : gf = gt + 1 := h
        omega)
      have e6 := hFr.cell 6
      simp only [List.getElem?_toArray, List.getElem?_cons_zero, List.getElem?_cons_succ] at e6
      clear hFr hA
      go_wp2_with fail
      have hB8 : Blk ((wr.alloc (Obj.cells #[.string nm, .int .u32 (m : Nat)] 120)).alloc (Obj.cells #[.string nm, .int .u32 (m : Nat), .int .u32 (off : Nat), .nilIface, .pointer none] 77)) (wr.heap.size + 1) 77 #[.string nm, .int .u32 (m : Nat), .int .u32 (off : Nat), .nilIface, .pointer none] := Blk.at_ _ _ _ (by simp)
      have hz8 : ((wr.alloc (Obj.cells #[.string nm, .int .u32 (m : Nat)] 120)).alloc (Obj.cells #[.string nm, .int .u32 (m : Nat), .int .u32 (off : Nat), .nilIface, .pointer none] 77)).heap.size = wr.heap.size + 2 := by simp
      have hK8 : Keeps (fun _ => False) wr ((wr.alloc (Obj.cells #[.string nm, .int .u32 (m : Nat)] 120)).alloc (Obj.cells #[.string nm, .int .u32 (m : Nat), .int .u32 (off : Nat), .nilIface, .pointer none] 77)) := ((Keeps.refl (fun _ => False) wr).alloc _).alloc _
      generalize ((wr.alloc (Obj.cells #[.string nm, .int .u32 (m : Nat)] 120)).alloc (Obj.cells #[.string nm, .int .u32 (m : Nat), .int .u32 (off : Nat), .nilIface, .pointer none] 77)) = w8 at hB8 hz8 hK8 ⊢
      have hfr8 := HW7.out.1.keeps (HSEC.out.2.trans (hK8.mono (fun i h => h.elim))) (fun h => by
        have h' : gf = gt + 1 := h
        omega)
      have e6 := hfr8.cell 6
      have x1 := hB8.cell 1
      have x2 := hB8.cell 2
      have x3 := hB8.cell 3
      have x4 := hB8.cell 4
      have y3 := hB8.frozen 3
      have y4 := hB8.frozen 4
      simp only [List.getElem?_toArray, List.getElem?_cons_zero, List.getElem?_cons_succ] at e6 x1 x2 x3 x4
      obtain ⟨ucs, hArr⟩ : ∃ cs : Array Value, Blk wr (gt + 1) 68 cs ∧ cs.size = 5 := by
        obtain ⟨gxs, h1, h2, _⟩ := HSEC.out.1
        exact ⟨_, h2, by simp [h1]; omega⟩
      have hA8 := hArr.1.keeps hK8 (fun h => h)
      have z0 := hA8.cell k
      have z1 := hA8.frozen k
      obtain ⟨uk, huk⟩ : ∃ u, ucs[k]? = some u := ⟨_, Array.getElem?_eq_getElem (show k < ucs.size by omega)⟩
      rw [huk] at z0
      have HB8 := Lib.hid hB8
      have HK8 := Lib.hid hK8
      generalize hn : wr.heap.size = n at *
      clear hArr hB8 hK8 e0 e1
      have e6x : ((((w8.setCell ⟨n + 1, 4, none⟩ (.pointer (some ⟨n + 2, 0, none⟩))).setCell ⟨n + 1, 3, none⟩ (.iface 75 (.pointer (some ⟨n + 2, 0, none⟩)))).alloc (Obj.cells #[.iface 95 (.pointer (some ⟨gr, 0, none⟩)), .int .i64 (off : Nat), .int .i64 (off : Nat), .int .i64 ((m : Int) + (off : Int)), .int .i64 (m : Nat)] 140)).drew).cell? ⟨gf, 6, none⟩ = some (.slice (some ⟨gt + 1, 0, none⟩) 5 5) := ((((hfr8.far (p := ⟨n + 1, 4, none⟩) (by dsimp only; omega) _).far (p := ⟨n + 1, 3, none⟩) (by dsimp only; omega) _).alloc _).drewN 1).cell 6
      have z0x : ((((w8.setCell ⟨n + 1, 4, none⟩ (.pointer (some ⟨n + 2, 0, none⟩))).setCell ⟨n + 1, 3, none⟩ (.iface 75 (.pointer (some ⟨n + 2, 0, none⟩)))).alloc (Obj.cells #[.iface 95 (.pointer (some ⟨gr, 0, none⟩)), .int .i64 (off : Nat), .int .i64 (off : Nat), .int .i64 ((m : Int) + (off : Int)), .int .i64 (m : Nat)] 140)).drew).cell? ⟨gt + 1, k, none⟩ = some uk := (((((hA8.far (p := ⟨n + 1, 4, none⟩) (by dsimp only; omega) _).far (p := ⟨n + 1, 3, none⟩) (by dsimp only; omega) _).alloc _).drewN 1).cell k).trans huk
      have z1x : ((((w8.setCell ⟨n + 1, 4, none⟩ (.pointer (some ⟨n + 2, 0, none⟩))).setCell ⟨n + 1, 3, none⟩ (.iface 75 (.pointer (some ⟨n + 2, 0, none⟩)))).alloc (Obj.cells #[.iface 95 (.pointer (some ⟨gr, 0, none⟩)), .int .i64 (off : Nat), .int .i64 (off : Nat), .int .i64 ((m : Int) + (off : Int)), .int .i64 (m : Nat)] 140)).drew).frozen? ⟨gt + 1, k, none⟩ = false := ((((hA8.far (p := ⟨n + 1, 4, none⟩) (by dsimp only; omega) _).far (p := ⟨n + 1, 3, none⟩) (by dsimp only; omega) _).alloc _).drewN 1).frozen k
      clear hfr8 hA8 huk
      go_region_with (go_at_call 45; refine (newSection_any ⟨gr, 0, none⟩ off m _ (by omega)).mono ?_; rintro e wx ⟨rfl, rfl⟩)
      all_goals
        go_wp2_with fail
        have hKx : Keeps (fun b => b = gt + 1) wr (((((w8.setCell ⟨n + 1, 4, none⟩ (.pointer (some ⟨n + 2, 0, none⟩))).setCell ⟨n + 1, 3, none⟩ (.iface 75 (.pointer (some ⟨n + 2, 0, none⟩)))).alloc (Obj.cells #[.iface 95 (.pointer (some ⟨gr, 0, none⟩)), .int .i64 (off : Nat), .int .i64 (off : Nat), .int .i64 ((m : Int) + (off : Int)), .int .i64 (m : Nat)] 140)).setCell ⟨gt + 1, k, none⟩ (.pointer (some ⟨n + 1, 0, none⟩))).drew) := ((((((HK8.out.mono (T := fun b => b = gt + 1) (fun i h => h.elim)).setCell (p := ⟨n + 1, 4, none⟩) (fun h => by dsimp only at h; omega) _).setCell (p := ⟨n + 1, 3, none⟩) (fun h => by dsimp only at h; omega) _).alloc _).setCell (p := ⟨gt + 1, k, none⟩) (fun _ => rfl) _).drew)
        have hx1 : Blk (((((w8.setCell ⟨n + 1, 4, none⟩ (.pointer (some ⟨n + 2, 0, none⟩))).setCell ⟨n + 1, 3, none⟩ (.iface 75 (.pointer (some ⟨n + 2, 0, none⟩)))).alloc (Obj.cells #[.iface 95 (.pointer (some ⟨gr, 0, none⟩)), .int .i64 (off : Nat), .int .i64 (off : Nat), .int .i64 ((m : Int) + (off : Int)), .int .i64 (m : Nat)] 140)).setCell ⟨gt + 1, k, none⟩ (.pointer (some ⟨n + 1, 0, none⟩))).drew) (n + 1) 77 (secCells nm m off (n + 2)) := (((((HB8.out.set_ 4 (.pointer (some ⟨n + 2, 0, none⟩))).set_ 3 (.iface 75 (.pointer (some ⟨n + 2, 0, none⟩)))).alloc _).far (p := ⟨gt + 1, k, none⟩) (by dsimp only; omega) _).drewN 1)
        have hx2 : Blk (((((w8.setCell ⟨n + 1, 4, none⟩ (.pointer (some ⟨n + 2, 0, none⟩))).setCell ⟨n + 1, 3, none⟩ (.iface 75 (.pointer (some ⟨n + 2, 0, none⟩)))).alloc (Obj.cells #[.iface 95 (.pointer (some ⟨gr, 0, none⟩)), .int .i64 (off : Nat), .int .i64 (off : Nat), .int .i64 ((m : Int) + (off : Int)), .int .i64 (m : Nat)] 140)).setCell ⟨gt + 1, k, none⟩ (.pointer (some ⟨n + 1, 0, none⟩))).drew) (n + 2) 140 (srCells gr off off ((m : Int) + (off : Int)) m) := ((Blk.at_ _ _ _ (by simp [World.setCell, hz8])).far (p := ⟨gt + 1, k, none⟩) (by dsimp only; omega) _).drewN 1
        refine ⟨⟨k + 1, by omega, by go_num, by rw [offAt_succ _ _ k m hm, hofe]; simp, HSEC.out.1.snoc hlt hnm hm hKx (fun b hb1 _ hb2 => by
          have h' : b = gt + 1 := hb2
          omega) (fun cs h => ((((((h.keeps HK8.out (fun h => h)).far (p := ⟨n + 1, 4, none⟩) (by dsimp only; omega) _).far (p := ⟨n + 1, 3, none⟩) (by dsimp only; omega) _).alloc _).set_ k _).drewN 1)) ?_, HSEC.out.2.trans hKx⟩, by simp [intOf]; omega⟩
        rw [hofe]
        exact ⟨by omega, n + 2, by omega, hx1, hx2⟩
    · obtain rfl : k = 5 := by omega
      go_wp2_with fail
      go_ret2
      exact ⟨gf, gt + 1, by simp, HW7.out.1.keeps HSEC.out.2 (fun h => by
        have h' : gf = gt + 1 := h
        omega), HSEC.out.1.lower (by omega), by omega, by omega, HW7.out.2.2.step HSEC.out.2 (fun i hi h => by
        have h' : i = gt + 1 := h
        omega)⟩

end Go.Proofs.YtpdjolkbjcdimaaDoor
