/- FnProgram: for every program the law returns true: its magic number, its room without data, its entry, how long pointers are, and its five sections with their data are told as they were written. The package variables start as the program's text lays them (the card's tie). No other condition. -/
import Derived.Test.YtpdjolkbjcdimaaDoorP9File
import Derived.Test.YtpdjolkbjcdimaaDoorSecs5
import Derived.Test.YtpdjolkbjcdimaaDoorOpenPrg
import Derived.Test.YtpdjolkbjcdimaaDoorLaid
namespace Go.Proofs.YtpdjolkbjcdimaaDoor.lawProgram
open Go.ChangeShapes Go.WideShapes Go.ChangeAt Go.RowKit
open Go.ChangeMaps (open_string shut_string)

theorem own : ownKnob Tryd.prog.godebug = none := by kernel_rfl
theorem laidOut : laidOutB Tryd.prog = true := by kernel_rfl

theorem exec_load_whole {P : Program} {W : World} {g t : Nat} {cs : Array Value} (h : Blk W g t cs) (ty : TypeId) (x : Operand) {op : Oper} {ev : Operand → Value} (ho : op.op = .load ty x) (hx : ev x = .pointer (some ⟨g, 0, none⟩))
    (d : TypeDesc) (hu : P.underlying ty = some d) (hd : d.isRow = true) (hi : (P.info? ty).map (·.size) = some cs.size) : (execOp ev op).run P W = .ok (.value (.agg cs)) W := by
  have hl := run_loadVar_mid (P := P) W g 0 ty cs.toList d h.range_ hu hd (by simpa using hi)
  unfold execOp
  simp only [ho, hx, Instr.loadAt, Instr.sureAddr, Sem.run_bind, Sem.run_pure, Result.andThen_ok, hl, Array.toArray_toList]
/-- A slice of these sections. -/
def SxV (xs : List Sx) (v : Value) (w : World) : Prop := ∃ A c, v = .slice A 5 c ∧ Sxs w A xs
theorem SxV.stays (xs : List Sx) : Stays (SxV xs) := fun _ _ _ h ⟨A, c, e, hb⟩ => ⟨A, c, e, hb.below h⟩
/-- What P9File tells is what the reference tells. -/
theorem told_same (p : Prg) (xs : List Sx) (hxs : ∀ (j : Nat) (x : Sx), xs[j]? = some x → (∃ q, p.pieces[j]? = some q ∧ x.d.l = q.l ∧ x.m = q.l.length) ∧ secNames[j]? = some x.nm ∧ x.off = offAt p.hdr p.lens j) :
    ∀ (i : Nat) (x y : Sx), xs[i]? = some x → (p.told 5)[i]? = some y → x.nm = y.nm ∧ x.m = y.m ∧ x.off = y.off ∧ x.d.l = y.d.l := by
  intro i x y hx hy
  obtain ⟨⟨q, hq, h1, h2⟩, h3, h4⟩ := hxs i x hx
  have hi : i < 5 := by
    have := (List.getElem?_eq_some_iff.1 hy).1
    rwa [p.told_length] at this
  have hy' : (p.told 5)[i]? = some ⟨secNames[i]?.getD ⟨#[]⟩, p.lens[i]?.getD 0, offAt p.hdr p.lens i, p.pieces[i]?.getD p.T⟩ := by
    unfold Prg.told
    rw [List.getElem?_map, List.getElem?_range hi]
    rfl
  rw [hy'] at hy
  injection hy with hy
  subst hy
  have hl : p.lens[i]? = some q.l.length := by
    have : p.lens = p.pieces.map (fun q => q.l.length) := rfl
    rw [this, List.getElem?_map, hq]
    rfl
  refine ⟨by rw [h3]; rfl, by rw [hl, h2]; rfl, h4, by rw [hq]; exact h1⟩

set_option maxRecDepth 100000 in
set_option maxHeartbeats 1600000 in
theorem walk (p : Prg) (w : World) (hE : Eofs w) (hp : p.stand w) (hM : p.M < 4294967296) (hB : p.B < 4294967296) (hEn : p.E < 18446744073709551616) :
    Calls Tryd.prog 4 #[.agg p.cells] w fun e w' => e = .returned (.bool true) ∧ Below w.heap.size w w' := by
  have hbx : Blk (w.alloc (.cells p.cells 34)) w.heap.size 34 p.cells := Blk.new w _ _
  have hg0 : Grew w (w.alloc (.cells p.cells 34)) := Grew.alloc w _
  have hst : p.stand (w.alloc (.cells p.cells 34)) := hp.below hg0
  have hE0 : Eofs (w.alloc (.cells p.cells 34)) := hE.below hg0
  have hIP : (Tryd.prog.info? 34).map (·.size) = some p.cells.size := by show _ = some 8; kernel_rfl
  have HIP := Lib.hid hIP
  have HMB := Lib.hid (show _ ∧ _ ∧ _ from ⟨hM, hB, hEn⟩)
  clear hIP hM hB hEn
  go_enter Tryd.func4, Tryd.ntmps4
  go_wp2_with (first | (with_reducible refine wpList_load_whole hbx 34 _ Tryd.underlying34 rfl HIP.out rfl _ rfl rfl ?_))
  clear hp hE
  generalize hgw : w.heap.size = g0 at *
  generalize w.alloc (.cells p.cells 34) = w1 at hbx hg0 hst hE0 ⊢
  have HG0 := Lib.hid hgw
  clear hgw
  refine (fits5_any p w1).mono ?_
  rintro e w2 ⟨b, rfl, hfit, hbel2⟩
  have hG2 : Grew w w2 := hg0.trans hbel2
  have hbx2 := hbx.below hbel2 hbx.lt
  have hst2 := hst.below hbel2
  have hE2 := hE0.below hbel2
  clear hbx hst hE0 hg0 hbel2
  cases b
  · clear hfit hbx2
    go_wp2_with fail
    go_ret
    exact ⟨rfl, hG2⟩
  obtain ⟨hf1, hf2, hf3, hf4, hf5⟩ := hfit rfl
  clear hfit
  have d0 : w2.cell? ⟨g0, 0, none⟩ = some (.int .u32 (p.M : Nat)) := hbx2.cell 0
  go_wp2_with fail
  clear d0
  refine (known_any p.M w2).mono ?_
  rintro e w3 ⟨b, rfl, hkn, hbel3⟩
  have hG3 : Grew w w3 := hG2.trans hbel3
  have hbx3 := hbx2.below hbel3 hbx2.lt
  have hst3 := hst2.below hbel3
  have hE3 := hE2.below hbel3
  clear hbx2 hst2 hE2 hG2 hbel3
  cases b
  · clear hkn hbx3
    go_wp2_with fail
    go_ret
    exact ⟨rfl, hG3⟩
  have hk := hkn rfl
  clear hkn
  have d2 : w3.cell? ⟨g0, 2, none⟩ = some (.int .u64 (p.E : Nat)) := hbx3.cell 2
  by_cases hq : (4294967296 : Int) ≤ (p.E : Int)
  · have HB3 := Lib.hid hbx3
    clear hbx3
    go_wp2_with fail
    go_ret
    exact ⟨by simp, hG3⟩
  have d3 : w3.cell? ⟨g0, 3, none⟩ = some (.slice p.T.A p.T.l.length p.T.c) := hbx3.cell 3
  have d4 : w3.cell? ⟨g0, 4, none⟩ = some (.slice p.D.A p.D.l.length p.D.c) := hbx3.cell 4
  have d5 : w3.cell? ⟨g0, 5, none⟩ = some (.slice p.S.A p.S.l.length p.S.c) := hbx3.cell 5
  have d6 : w3.cell? ⟨g0, 6, none⟩ = some (.slice p.P.A p.P.l.length p.P.c) := hbx3.cell 6
  have d7 : w3.cell? ⟨g0, 7, none⟩ = some (.slice p.Q.A p.Q.l.length p.Q.c) := hbx3.cell 7
  have HB3 := Lib.hid (show _ ∧ _ ∧ _ ∧ _ from ⟨hbx3, hst3, hE3, hG3⟩)
  clear hst3 hE3 hG3
  have hl1 : (p.T.l.length : Int) ≤ 2147483647 := by omega
  have hl2 : (p.D.l.length : Int) ≤ 2147483647 := by omega
  have hl3 : (p.S.l.length : Int) ≤ 2147483647 := by omega
  have hl4 : (p.P.l.length : Int) ≤ 2147483647 := by omega
  have hl5 : (p.Q.l.length : Int) ≤ 2147483647 := by omega
  have HF := Lib.hid (show _ ∧ _ ∧ _ ∧ _ ∧ _ from ⟨hf1, hf2, hf3, hf4, hf5⟩)
  clear hf1 hf2 hf3 hf4 hf5
  by_cases hsum : (1000 : Int) < (p.T.l.length : Int) + (p.D.l.length : Int) + (p.S.l.length : Int) + (p.P.l.length : Int) + (p.Q.l.length : Int)
  · clear hbx3
    go_wp2_with fail
    go_ret
    exact ⟨by simp, HB3.out.2.2.2⟩
  have hds : decide ((1000 : Int) < (p.T.l.length : Int) + (p.D.l.length : Int) + (p.S.l.length : Int) + (p.P.l.length : Int) + (p.Q.l.length : Int)) = false := decide_eq_false hsum
  have hdq : decide ((4294967296 : Int) ≤ (p.E : Int)) = false := decide_eq_false hq
  have HQ := Lib.hid (show _ ∧ _ from ⟨hsum, hq⟩)
  clear hbx3 hsum hq
  go_wp2_with (first | (with_reducible refine wpList_load_whole HB3.out.1 34 _ Tryd.underlying34 rfl HIP.out rfl _ rfl rfl ?_))
  have hqs := HQ.out.1
  have hqe := HQ.out.2
  have hsumN : p.T.l.length + (p.D.l.length + (p.S.l.length + (p.P.l.length + p.Q.l.length))) ≤ 900000 := by omega
  have hEN : p.E < 4294967296 := by omega
  have HEN := Lib.hid (show _ ∧ _ from ⟨hEN, hsumN⟩)
  clear d2 d3 d4 d5 d6 d7 hds hdq hl1 hl2 hl3 hl4 hl5 HF hqs hqe hEN hsumN HQ
  refine (written_any p w3 HB3.out.2.1 hk HMB.out.2.1 (by have := HEN.out.2; omega)).mono ?_
  rintro e w4 ⟨A4, N4, c4, rfl, hown4, hbel4⟩
  obtain ⟨hbs4, hN4, _, _, _⟩ := Bs.of_own hown4
  have hG4 : Grew w w4 := HB3.out.2.2.2.trans hbel4
  have hbx4 := HB3.out.1.below hbel4 HB3.out.1.lt
  have hst4 := HB3.out.2.1.below hbel4
  have hE4 := HB3.out.2.2.1.below hbel4
  have hlen4 : N4 ≤ 1000000 := by
    have h1 := p.bytes_length
    have h2 := HEN.out.2
    have h3 : p.hdr ≤ 40 := by unfold Prg.hdr; split <;> omega
    omega
  have H4 := Lib.hid (show _ ∧ _ ∧ _ ∧ _ ∧ _ ∧ _ ∧ _ from ⟨hbs4, hN4, hG4, hbx4, hst4, hE4, hlen4⟩)
  clear hown4 hbs4 hN4 hG4 hbx4 hst4 hE4 hbel4 HB3 hlen4
  go_wp2_with fail
  refine (impl_P9File A4 p N4 c4 w4 H4.out.2.2.2.2.2.1 H4.out.2.1.symm H4.out.1 (p.heads hk HMB.out.2.1 HEN.out.1 HEN.out.2) H4.out.2.2.2.2.2.2).mono ?_
  rintro e w5 ⟨Ao, co, xs, rfl, hxl, hsx, hxs, hbel5⟩
  have hG5 : Grew w w5 := H4.out.2.2.1.trans hbel5
  have hbx5 := H4.out.2.2.2.1.below hbel5 H4.out.2.2.2.1.lt
  have hst5 := H4.out.2.2.2.2.1.below hbel5
  have hbx6 := hbx5.alloc (.cells #[.int .u32 (p.M : Nat), .int .u32 (p.B : Nat), .int .u64 (p.E : Nat), .int .i64 (p.ptr : Nat), .int .u64 (p.load : Nat), .int .u64 (p.hdr : Nat), .slice Ao 5 co] 39)
  have hg5 := Grew.alloc w5 (.cells #[.int .u32 (p.M : Nat), .int .u32 (p.B : Nat), .int .u64 (p.E : Nat), .int .i64 (p.ptr : Nat), .int .u64 (p.load : Nat), .int .u64 (p.hdr : Nat), .slice Ao 5 co] 39)
  have hto : Blk (w5.alloc (.cells #[.int .u32 (p.M : Nat), .int .u32 (p.B : Nat), .int .u64 (p.E : Nat), .int .i64 (p.ptr : Nat), .int .u64 (p.load : Nat), .int .u64 (p.hdr : Nat), .slice Ao 5 co] 39)) w5.heap.size 39 #[.int .u32 (p.M : Nat), .int .u32 (p.B : Nat), .int .u64 (p.E : Nat), .int .i64 (p.ptr : Nat), .int .u64 (p.load : Nat), .int .u64 (p.hdr : Nat), .slice Ao 5 co] := Blk.new w5 _ _
  have hG6 := hG5.trans hg5
  have hst6 := hst5.below hg5
  have hsx6 := hsx.below hg5
  have d0 : (w5.alloc (.cells #[.int .u32 (p.M : Nat), .int .u32 (p.B : Nat), .int .u64 (p.E : Nat), .int .i64 (p.ptr : Nat), .int .u64 (p.load : Nat), .int .u64 (p.hdr : Nat), .slice Ao 5 co] 39)).cell? ⟨g0, 0, none⟩ = some (.int .u32 (p.M : Nat)) := hbx6.cell 0
  have HXX := Lib.hid (show _ ∧ _ from ⟨hxl, hxs⟩)
  have H6 := Lib.hid (show _ ∧ _ ∧ _ ∧ _ ∧ _ from ⟨hto, hbx6, hst6, hsx6, hG6⟩)
  clear hG5 hbx5 hst5 hxl hsx hxs hbel5 H4 hbx6 hst6 hsx6 hG6 hto hg5
  go_wp2_with fail
  obtain ⟨hto, hbx6, hst6, hsx6, hG6⟩ := H6.out
  clear H6
  generalize hgt : w5.heap.size = gt at *
  generalize w5.alloc (.cells #[.int .u32 (p.M : Nat), .int .u32 (p.B : Nat), .int .u64 (p.E : Nat), .int .i64 (p.ptr : Nat), .int .u64 (p.load : Nat), .int .u64 (p.hdr : Nat), .slice Ao 5 co] 39) = w6 at *
  refine (wide_any p.M w6 hk).mono ?_
  rintro e w7 ⟨rfl, h7⟩
  rw [h7]
  clear h7 d0
  -- REGION 9
  have hwide : (p.M = 35479 ∧ p.ptr = 8 ∧ p.hdr = 40) ∨ (¬ p.M = 35479 ∧ p.ptr = 4 ∧ p.hdr = 32) := by
    unfold Prg.ptr Prg.hdr
    by_cases h : p.M = 35479
    · exact .inl ⟨h, by simp [h], by simp [h]⟩
    · exact .inr ⟨h, by simp [h], by simp [h]⟩
  have HPH := Lib.hid (show p.hdr = p.hdr from rfl)
  generalize hcells : (#[.int .u32 (p.M : Nat), .int .u32 (p.B : Nat), .int .u64 (p.E : Nat), .int .i64 (p.ptr : Nat), .int .u64 (p.load : Nat), .int .u64 (p.hdr : Nat), .slice Ao 5 co] : Array Value) = cells at hto
  have HCL := Lib.hid hcells
  clear hcells
  rcases hwide with ⟨hw, hpt, hhd⟩ | ⟨hw, hpt, hhd⟩
  all_goals
    first
      | rw [show decide (p.M = 35479) = true from by simpa using hw]
      | rw [show decide (p.M = 35479) = false from by simpa using hw]
    go_wp2_with fail
    have hto' : Blk w6.drew gt 39 cells := hto
    have hbx' : Blk w6.drew g0 34 p.cells := hbx6
    have hst' : p.stand w6.drew := hst6
    have hsx' : Sxs w6.drew Ao xs := hsx6
    have hG' : Grew w w6.drew := hG6.trans (Grew.drew _)
    refine wp_region_held_drew (S := Grew w6.drew) (by kernel_rfl) (Grew.refl _) (fun hHeld => ?_)
    generalize w6.drew = W0 at hto' hbx' hst' hsx' hG' hHeld ⊢
    rw [← HCL.out, hpt, hhd] at hto'
    have t0 := hto'.cell 0
    have t1 := hto'.cell 1
    have t2 := hto'.cell 2
    have t3 := hto'.cell 3
    have t5 := hto'.cell 5
    have t6 := hto'.cell 6
    simp only [List.getElem?_toArray, List.getElem?_cons_zero, List.getElem?_cons_succ] at t0 t1 t2 t3 t5 t6
    have d0 : W0.cell? ⟨g0, 0, none⟩ = some (.int .u32 (p.M : Nat)) := hbx'.cell 0
    have d1 : W0.cell? ⟨g0, 1, none⟩ = some (.int .u32 (p.B : Nat)) := hbx'.cell 1
    have d2 : W0.cell? ⟨g0, 2, none⟩ = some (.int .u64 (p.E : Nat)) := hbx'.cell 2
    have HXS := Lib.hid (show _ ∧ _ ∧ _ ∧ _ from ⟨hbx', hst', hsx', hG'⟩)
    clear hto hbx6 hst6 hsx6 hG6 hto' hbx' hst' hsx' hG' hpt hhd hw
    refine takeT 0 rfl rfl (by kernel_rfl) (by kernel_rfl) (by kernel_rfl) (fun _ _ _ h => h) hHeld rfl (fun W hW => by go_simp; rfl) ?_
    simp only [List.set_cons_zero, List.set_cons_succ]
    refine takeT 1 rfl rfl (by kernel_rfl) (by kernel_rfl) (by kernel_rfl) (fun _ _ _ h => h) hHeld rfl (fun W hW => by go_simp; rfl) ?_
    simp only [List.set_cons_zero, List.set_cons_succ]
    refine takeT 2 rfl rfl (by kernel_rfl) (by kernel_rfl) (by kernel_rfl) (fun _ _ _ h => h) hHeld rfl (fun W hW => by go_simp; rfl) ?_
    simp only [List.set_cons_zero, List.set_cons_succ]
    refine takeT 3 rfl rfl (by kernel_rfl) (by kernel_rfl) (by kernel_rfl) (fun _ _ _ h => h) hHeld rfl (fun W hW => by have e0 := hW.cell t0; go_simp; rfl) ?_
    simp only [List.set_cons_zero, List.set_cons_succ]
    refine takeT 4 rfl rfl (by kernel_rfl) (by kernel_rfl) (by kernel_rfl) (fun _ _ _ h => h) hHeld rfl (fun W hW => by go_simp; rfl) ?_
    simp only [List.set_cons_zero, List.set_cons_succ]
    refine takeT 5 rfl rfl (by kernel_rfl) (by kernel_rfl) (by kernel_rfl) (fun _ _ _ h => h) hHeld rfl (fun W hW => by have e0 := hW.cell d0; go_simp; rfl) ?_
    simp only [List.set_cons_zero, List.set_cons_succ]
    refine takeT 6 rfl rfl (by kernel_rfl) (by kernel_rfl) (by kernel_rfl) (fun _ _ _ h => h) hHeld rfl (fun W hW => by go_simp; rfl) ?_
    simp only [List.set_cons_zero, List.set_cons_succ]
    refine takeT 7 rfl rfl (by kernel_rfl) (by kernel_rfl) (by kernel_rfl) (fun _ _ _ h => h) hHeld rfl (fun W hW => by go_simp; rfl) ?_
    simp only [List.set_cons_zero, List.set_cons_succ]
    refine takeT 8 rfl rfl (by kernel_rfl) (by kernel_rfl) (by kernel_rfl) (fun _ _ _ h => h) hHeld rfl (fun W hW => by go_simp; rfl) ?_
    simp only [List.set_cons_zero, List.set_cons_succ]
    refine takeT 9 rfl rfl (by kernel_rfl) (by kernel_rfl) (by kernel_rfl) (fun _ _ _ h => h) hHeld rfl (fun W hW => by go_simp; rfl) ?_
    simp only [List.set_cons_zero, List.set_cons_succ]
    refine takeT 10 rfl rfl (by kernel_rfl) (by kernel_rfl) (by kernel_rfl) (fun _ _ _ h => h) hHeld rfl (fun W hW => by have e0 := hW.cell t1; go_simp; rfl) ?_
    simp only [List.set_cons_zero, List.set_cons_succ]
    refine takeT 11 rfl rfl (by kernel_rfl) (by kernel_rfl) (by kernel_rfl) (fun _ _ _ h => h) hHeld rfl (fun W hW => by go_simp; rfl) ?_
    simp only [List.set_cons_zero, List.set_cons_succ]
    refine takeT 12 rfl rfl (by kernel_rfl) (by kernel_rfl) (by kernel_rfl) (fun _ _ _ h => h) hHeld rfl (fun W hW => by have e0 := hW.cell d1; go_simp; rfl) ?_
    simp only [List.set_cons_zero, List.set_cons_succ]
    refine takeT 13 rfl rfl (by kernel_rfl) (by kernel_rfl) (by kernel_rfl) (fun _ _ _ h => h) hHeld rfl (fun W hW => by go_simp; rfl) ?_
    simp only [List.set_cons_zero, List.set_cons_succ]
    refine takeT 14 rfl rfl (by kernel_rfl) (by kernel_rfl) (by kernel_rfl) (fun _ _ _ h => h) hHeld rfl (fun W hW => by go_simp; rfl) ?_
    simp only [List.set_cons_zero, List.set_cons_succ]
    refine takeT 15 rfl rfl (by kernel_rfl) (by kernel_rfl) (by kernel_rfl) (fun _ _ _ h => h) hHeld rfl (fun W hW => by go_simp; rfl) ?_
    simp only [List.set_cons_zero, List.set_cons_succ]
    refine takeT 16 rfl rfl (by kernel_rfl) (by kernel_rfl) (by kernel_rfl) (fun _ _ _ h => h) hHeld rfl (fun W hW => by go_simp; rfl) ?_
    simp only [List.set_cons_zero, List.set_cons_succ]
    refine takeT 17 rfl rfl (by kernel_rfl) (by kernel_rfl) (by kernel_rfl) (fun _ _ _ h => h) hHeld rfl (fun W hW => by have e0 := hW.cell t2; go_simp; rfl) ?_
    simp only [List.set_cons_zero, List.set_cons_succ]
    refine takeT 18 rfl rfl (by kernel_rfl) (by kernel_rfl) (by kernel_rfl) (fun _ _ _ h => h) hHeld rfl (fun W hW => by go_simp; rfl) ?_
    simp only [List.set_cons_zero, List.set_cons_succ]
    refine takeT 19 rfl rfl (by kernel_rfl) (by kernel_rfl) (by kernel_rfl) (fun _ _ _ h => h) hHeld rfl (fun W hW => by have e0 := hW.cell d2; go_simp; rfl) ?_
    simp only [List.set_cons_zero, List.set_cons_succ]
    refine takeT 20 rfl rfl (by kernel_rfl) (by kernel_rfl) (by kernel_rfl) (fun _ _ _ h => h) hHeld rfl (fun W hW => by go_simp; rfl) ?_
    simp only [List.set_cons_zero, List.set_cons_succ]
    refine takeT 21 rfl rfl (by kernel_rfl) (by kernel_rfl) (by kernel_rfl) (fun _ _ _ h => h) hHeld rfl (fun W hW => by go_simp; rfl) ?_
    simp only [List.set_cons_zero, List.set_cons_succ]
    refine takeT 22 rfl rfl (by kernel_rfl) (by kernel_rfl) (by kernel_rfl) (fun _ _ _ h => h) hHeld rfl (fun W hW => by go_simp; rfl) ?_
    simp only [List.set_cons_zero, List.set_cons_succ]
    refine takeT 23 rfl rfl (by kernel_rfl) (by kernel_rfl) (by kernel_rfl) (fun _ _ _ h => h) hHeld rfl (fun W hW => by go_simp; rfl) ?_
    simp only [List.set_cons_zero, List.set_cons_succ]
    refine takeT 24 rfl rfl (by kernel_rfl) (by kernel_rfl) (by kernel_rfl) (fun _ _ _ h => h) hHeld rfl (fun W hW => by have e0 := hW.cell t3; go_simp; rfl) ?_
    simp only [List.set_cons_zero, List.set_cons_succ]
    refine takeT 25 rfl rfl (by kernel_rfl) (by kernel_rfl) (by kernel_rfl) (fun _ _ _ h => h) hHeld rfl (fun W hW => by go_simp; rfl) ?_
    simp only [List.set_cons_zero, List.set_cons_succ]
    refine takeT 26 rfl rfl (by kernel_rfl) (by kernel_rfl) (by kernel_rfl) (fun _ _ _ h => h) hHeld rfl (fun W hW => by go_simp; rfl) ?_
    simp only [List.set_cons_zero, List.set_cons_succ]
    refine takeT 27 rfl rfl (by kernel_rfl) (by kernel_rfl) (by kernel_rfl) (fun _ _ _ h => h) hHeld rfl (fun W hW => by go_simp; rfl) ?_
    simp only [List.set_cons_zero, List.set_cons_succ]
    refine takeT 28 rfl rfl (by kernel_rfl) (by kernel_rfl) (by kernel_rfl) (fun _ _ _ h => h) hHeld rfl (fun W hW => by go_simp; rfl) ?_
    simp only [List.set_cons_zero, List.set_cons_succ]
    refine takeT 29 rfl rfl (by kernel_rfl) (by kernel_rfl) (by kernel_rfl) (fun _ _ _ h => h) hHeld rfl (fun W hW => by go_simp; rfl) ?_
    simp only [List.set_cons_zero, List.set_cons_succ]
    refine takeT 30 rfl rfl (by kernel_rfl) (by kernel_rfl) (by kernel_rfl) (fun _ _ _ h => h) hHeld rfl (fun W hW => by have e0 := hW.cell t5; go_simp; rfl) ?_
    simp only [List.set_cons_zero, List.set_cons_succ]
    refine takeT 31 rfl rfl (by kernel_rfl) (by kernel_rfl) (by kernel_rfl) (fun _ _ _ h => h) hHeld rfl (fun W hW => by go_simp; rfl) ?_
    simp only [List.set_cons_zero, List.set_cons_succ]
    refine takeT 32 rfl rfl (by kernel_rfl) (by kernel_rfl) (by kernel_rfl) (fun _ _ _ h => h) hHeld rfl (fun W hW => by go_simp; rfl) ?_
    simp only [List.set_cons_zero, List.set_cons_succ]
    refine takeT 33 rfl rfl (by kernel_rfl) (by kernel_rfl) (by kernel_rfl) (fun _ _ _ h => h) hHeld rfl (fun W hW => by go_simp; rfl) ?_
    simp only [List.set_cons_zero, List.set_cons_succ]
    refine takeT 34 rfl rfl (by kernel_rfl) (by kernel_rfl) (by kernel_rfl) (fun _ _ _ h => h) hHeld rfl (fun W hW => by go_simp; rfl) ?_
    simp only [List.set_cons_zero, List.set_cons_succ]
    refine takeT 35 rfl rfl (by kernel_rfl) (by kernel_rfl) (by kernel_rfl) (fun _ _ _ h => h) hHeld rfl (fun W hW => by go_simp; rfl) ?_
    simp only [List.set_cons_zero, List.set_cons_succ]
    refine takeT 36 rfl rfl (by kernel_rfl) (by kernel_rfl) (by kernel_rfl) (fun _ _ _ h => h) hHeld rfl (fun W hW => by have e0 := hW.cell t6; go_simp; rfl) ?_
    simp only [List.set_cons_zero, List.set_cons_succ]
    refine takeT 37 rfl rfl (by kernel_rfl) (by kernel_rfl) (by kernel_rfl) (fun _ _ _ h => h) hHeld rfl (fun W hW => exec_load_whole (HXS.out.1.below hW HXS.out.1.lt) 34 _ rfl rfl _ Tryd.underlying34 rfl HIP.out) ?_
    simp only [List.set_cons_zero, List.set_cons_succ]
    refine wpAnyH_grow0 [gjob 38 [] (SxV (p.told 5))] 3 5 (by kernel_rfl) rfl (by kernel_rfl) hHeld ?_ ?_ ?_
    · intro q hq
      simp only [List.mem_cons, List.not_mem_nil, or_false] at hq
      subst hq
      exact ⟨rfl, rfl, rfl, SxV.stays _⟩
    · intro q hq W1 hW1
      simp only [List.mem_cons, List.not_mem_nil, or_false] at hq
      subst hq
      refine does_enter 38 rfl rfl rfl (by go_simp) ((sections_any p W1 (HXS.out.2.1.below hW1) hk HEN.out.2).mono ?_)
      rintro e w9 ⟨A9, c9, rfl, h9, hb9⟩
      exact ⟨_, rfl, hb9, A9, c9, rfl, h9⟩
    intro vs1 W1 hW1 hpost1
    simp only [gjob, List.forall_mem_cons] at hpost1
    obtain ⟨⟨A9, c9, e9, hs9⟩, _⟩ := hpost1
    refine putsT 38 88 rfl (putsN ?_)
    rw [e9]
    simp only [List.set_cons_zero, List.set_cons_succ]
    refine wpAnyH_grow0 [gjob 39 [] (fun v _ => v = .bool true)] 2 5 (by kernel_rfl) rfl (by kernel_rfl) hW1 ?_ ?_ ?_
    · intro q hq
      simp only [List.mem_cons, List.not_mem_nil, or_false] at hq
      subst hq
      exact ⟨rfl, rfl, rfl, fun _ _ _ _ h => h⟩
    · intro q hq W2 hW2
      simp only [List.mem_cons, List.not_mem_nil, or_false] at hq
      subst hq
      refine does_enter 39 rfl rfl rfl (by go_simp) ((sameSecs_any Ao A9 xs (p.told 5) 5 co c9 W2 HXX.out.1 (p.told_length 5) ((HXS.out.2.2.1.below hW1).below hW2) (hs9.below hW2) (by omega) (told_same p xs HXX.out.2)).mono ?_)
      rintro e w9 ⟨rfl, k9, rfl⟩
      exact ⟨_, rfl, Grew.drewN _ _, rfl⟩
    intro vs2 W2 hW2 hpost2
    simp only [gjob, List.forall_mem_cons] at hpost2
    obtain ⟨e10, _⟩ := hpost2
    refine putsT 39 89 rfl (putsN ?_)
    rw [e10]
    simp only [List.set_cons_zero, List.set_cons_succ]
    have hX2 := hW1.trans hW2
    refine takeT 40 rfl rfl (by kernel_rfl) (by kernel_rfl) (by kernel_rfl) (fun _ _ _ h => h) hX2 rfl (fun W hW => by go_simp; rfl) ?_
    simp only [List.set_cons_zero, List.set_cons_succ]
    refine takeT 41 rfl rfl (by kernel_rfl) (by kernel_rfl) (by kernel_rfl) (fun _ _ _ h => h) hX2 rfl (fun W hW => by go_simp; rfl) ?_
    simp only [List.set_cons_zero, List.set_cons_succ]
    refine wpAnyH_done (by kernel_rfl) ?_ _
    have HG9 := Lib.hid (HXS.out.2.2.2.trans hX2)
    clear hX2 hW1 hW2 hHeld hs9 t0 t1 t2 t3 t5 t6 d0 d1 d2 e9 e10
    go_wp2_with fail
    go_ret
    exact ⟨rfl, HG9.out⟩

set_option maxRecDepth 100000 in
theorem lifted (os : Os) (started : os.Started) (H : Type) (enc : TypeId × Value → H) (F : Stop.Interp) :
    ReturnsInHanded {} Tryd.checked os 4 .any ((OpenSpec.ofChange Rows.fnProgramSpec).preRow enc Tryd.prog Tryd.f4 Rows.fnProgramRow.domain false Rows.fnProgramRow.laid) (((OpenSpec.ofChange Rows.fnProgramSpec).at F).post enc Tryd.prog Tryd.f4 false true false false) := by
  have hx : ∃ places, DataW.whole enc Tryd.prog ((World.doorLaid Tryd.prog 400 os).forCall (fun _ _ => 0) ⟨#[], #[Value.agg #[.int .u32 0, .int .u32 0, .int .u64 0, .slice none 0 0, .slice none 0 0, .slice none 0 0, .slice none 0 0, .slice none 0 0]], []⟩).memory Tryd.f4.params.toList Rows.fnProgramSpec.vars false #[Value.agg #[.int .u32 0, .int .u32 0, .int .u64 0, .slice none 0 0, .slice none 0 0, .slice none 0 0, .slice none 0 0, .slice none 0 0]].toList 8 = some ([.agg [.lit (.int .u32 0), .lit (.int .u32 0), .lit (.int .u64 0), .nil, .nil, .nil, .nil, .nil]], [], places) := ⟨[], by kernel_rfl⟩
  obtain ⟨places, hx⟩ := hx
  refine returnsInHanded_of_row (C := Tryd.checked) (s := OpenSpec.ofChange Rows.fnProgramSpec) own started (by kernel_rfl) Tryd.func4
    (witness_row_atRef (enc := enc) (C := Tryd.checked) false (World.doorLaid Tryd.prog 400 os) #[Value.agg #[.int .u32 0, .int .u32 0, .int .u64 0, .slice none 0 0, .slice none 0 0, .slice none 0 0, .slice none 0 0, .slice none 0 0]] rfl (by kernel_rfl) (by kernel_rfl) (by kernel_rfl)
      (OpenSpec.preRow_of_cond 8 hx (by kernel_rfl) (fun k hk => by cases hk) (by kernel_rfl) (door_met os _))) ?_
  intro W base args ds gs before hval0 hW _ _ _ hL _ _
  have hval : ∀ (j : Nat) t v, Tryd.f4.params[j]? = some t → args[j]? = some v → Value.okWide Tryd.prog W .any base t v := hval0
  have hW' := hW
  obtain ⟨p, q', hA0, hV, rfl, hfz, hnd⟩ := hW
  have hA : DataW.TrodAll enc Tryd.prog W 0 (fun _ => true) true Tryd.f4.params.toList args.toList ds p := hA0
  rw [Tryd.params4] at hA hval
  obtain ⟨v0, vs0, d0, ds0, p0, q0, hargs, rfl, rfl, h0, r0⟩ := trodAll_cons hA
  obtain ⟨rfl, rfl, rfl⟩ := trodAll_nil r0
  obtain rfl : args = #[v0] := by cases args; simp_all
  obtain ⟨rfl, rfl⟩ := trodVars_none hV
  have k0 := h0
  have lt0 : ∀ x ∈ p0, x.block < W.heap.size := by obtain ⟨m, hm⟩ := k0; exact DataW.trod_lt m _ _ _ hm
  obtain ⟨q, rfl, hst, hqM, hqB, hqE⟩ := open_prog (hval 0 34 v0 rfl rfl) h0
  clear hA0 hval0
  refine (walk q W (eofs_of_laid hL) hst hqM hqB hqE).mono fun e W' ⟨he, bel⟩ => ?_
  subst he
  exact ⟨_, rfl, _, _, _, [], _, [], hW', trodAll_mk1 (shut_bool Tryd.underlying4 _), (trodAll_cons_mk (Below.trod laidOut (by kernel_rfl) (of_decide_eq_true (by kernel_rfl)) k0 bel lt0) trodAll_mk0), rfl, bel.frame _, fun h => by cases h⟩

theorem said : Rows.FnProgramSaid :=
  OpenClaim.holds_of_cond 4 Tryd.f4 rfl rfl rfl rfl rfl rfl rfl ⟨rfl, rfl, rfl, rfl, rfl⟩ rfl rfl rfl rfl rfl (by kernel_rfl) Tryd.func4 (by kernel_rfl)
    (of_decide_eq_true (by kernel_rfl)) (by unfold Func.isWrapper; first | (rw [if_pos (by decide +kernel)]; kernel_rfl) | (rw [if_neg (by decide +kernel)]; exact ⟨rfl, rfl⟩))
    (fun os started H enc _ F => by rw [OpenClaim.pre_eq_preRow]; exact lifted os started H enc F)

/-- No parameter wants a stand-in; the program's own looks are as the card says. -/
theorem plain (f : FuncId) (fn : Func) (hf : Tryd.pinned.checked.prog.funcNamed "loop.example/pub-g03341/laws.FnProgram" = some f) (hfn : Tryd.pinned.checked.prog.funcs[f]? = some fn) :
    true = Tryd.pinned.checked.prog.looks [] ∧ ∀ (j : Nat) t, fn.params[j]? = some t → Tryd.pinned.checked.prog.wantsStandIn t = false := by
  obtain rfl : f = 4 := Option.some.inj ((show Tryd.prog.funcNamed "loop.example/pub-g03341/laws.FnProgram" = some 4 by kernel_rfl).symm.trans hf) |>.symm
  obtain rfl : fn = Tryd.f4 := (Option.some.inj (Tryd.func4.symm.trans hfn)).symm
  refine ⟨by kernel_rfl, fun j t ht => ?_⟩
  rw [Tryd.params4] at ht
  obtain rfl : t = 34 := by simpa using Array.mem_of_getElem? ht
  exact (show Tryd.prog.wantsStandIn 34 = false by kernel_rfl)

theorem proved : Rows.FnProgramCardSaid :=
  Claim7.holds_tied_plain_at .later [] _ _ _ _ said (fun _ h => by cases h) (by kernel_rfl) (fun _ h => by cases h) fnProgram_row_tie rfl ⟨rfl, rfl⟩ (by kernel_rfl) rfl plain (by kernel_rfl)
end Go.Proofs.YtpdjolkbjcdimaaDoor.lawProgram
