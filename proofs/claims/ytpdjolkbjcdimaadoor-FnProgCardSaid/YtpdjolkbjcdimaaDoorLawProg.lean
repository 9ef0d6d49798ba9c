/- FnProg: for every slice of bytes the law returns true: the header of a program is eight numbers of four bytes, the highest first; fewer bytes are refused. The package variables start as the program's text lays them (the card's tie). No other condition. -/
import Derived.Test.YtpdjolkbjcdimaaDoorImplProg
import Derived.Test.YtpdjolkbjcdimaaDoorSize
import Derived.Test.YtpdjolkbjcdimaaDoorGrow
import Derived.Test.YtpdjolkbjcdimaaDoorLaid
import Derived.Test.YtpdjolkbjcdimaaDoorOpen
namespace Go.Proofs.YtpdjolkbjcdimaaDoor.lawProg
open Go.ChangeShapes Go.WideShapes Go.ChangeAt Go.RowKit
open Go.ChangeMaps (open_string shut_string)

theorem own : ownKnob Tryd.prog.godebug = none := by kernel_rfl
theorem laidOut : laidOutB Tryd.prog = true := by kernel_rfl

def fields : List Int := [4, 4, 4, 4, 4, 4, 4, 4]
theorem fields_fit : ∀ f ∈ fields, -8 ≤ f ∧ f ≤ 8 := by decide
theorem fields_not0 : ∀ f ∈ fields, f ≠ 0 := by decide
theorem fields_size : fsize fields = 32 := rfl
theorem fields_nums (l : List UInt8) : fnums l 0 fields = [bev l 0 4, bev l 4 4, bev l 8 4, bev l 12 4, bev l 16 4, bev l 20 4, bev l 24 4, bev l 28 4] := by
  simp [fields, fnums, piece]
theorem zeros (n : Nat) (w : World) : Bs (w.alloc (.cells (List.replicate n (.int .u8 0)).toArray 5)) (some ⟨w.heap.size, 0, none⟩) (List.replicate n 0) := fun _ =>
  ⟨w.heap.size, 0, rfl, by simp, fun i hi => by
    rw [cell_of_row _ w.heap.size (0 + i) _ _ (0, 0) (heap_alloc_new w _), Nat.zero_add]
    have h : i < n := by simpa using hi
    simp [h]⟩
/-- Forty zeros at a fresh place: impl reads them. -/
theorem forty (w : World) : Calls Tryd.prog 6 #[.slice (some ⟨w.heap.size, 0, none⟩) 40 40] (w.alloc (.cells #[.int .u8 0, .int .u8 0, .int .u8 0, .int .u8 0, .int .u8 0, .int .u8 0, .int .u8 0, .int .u8 0, .int .u8 0, .int .u8 0, .int .u8 0, .int .u8 0, .int .u8 0, .int .u8 0, .int .u8 0, .int .u8 0, .int .u8 0, .int .u8 0, .int .u8 0, .int .u8 0, .int .u8 0, .int .u8 0, .int .u8 0, .int .u8 0, .int .u8 0, .int .u8 0, .int .u8 0, .int .u8 0, .int .u8 0, .int .u8 0, .int .u8 0, .int .u8 0, .int .u8 0, .int .u8 0, .int .u8 0, .int .u8 0, .int .u8 0, .int .u8 0, .int .u8 0, .int .u8 0] 5)) fun e w' =>
    ∃ v0 v1 v2 v3 v4 v5 v6 v7 : Nat, e = .returned (.tuple #[.agg #[.int .u32 v0, .int .u32 v1, .int .u32 v2, .int .u32 v3, .int .u32 v4, .int .u32 v5, .int .u32 v6, .int .u32 v7], .bool true]) ∧ Below w.heap.size w w' := by
  have h := impl_Prog (some ⟨w.heap.size, 0, none⟩) (List.replicate 40 0) 40 _ (zeros 40 w) (by rw [List.length_replicate]; decide) (by rw [List.length_replicate]; decide)
  rw [List.length_replicate] at h
  rw [show (#[.int .u8 0, .int .u8 0, .int .u8 0, .int .u8 0, .int .u8 0, .int .u8 0, .int .u8 0, .int .u8 0, .int .u8 0, .int .u8 0, .int .u8 0, .int .u8 0, .int .u8 0, .int .u8 0, .int .u8 0, .int .u8 0, .int .u8 0, .int .u8 0, .int .u8 0, .int .u8 0, .int .u8 0, .int .u8 0, .int .u8 0, .int .u8 0, .int .u8 0, .int .u8 0, .int .u8 0, .int .u8 0, .int .u8 0, .int .u8 0, .int .u8 0, .int .u8 0, .int .u8 0, .int .u8 0, .int .u8 0, .int .u8 0, .int .u8 0, .int .u8 0, .int .u8 0, .int .u8 0] : Array Value) = (List.replicate 40 (.int .u8 0)).toArray from rfl]
  refine Calls.mono h ?_
  rintro e w4 ⟨rfl, hbel4⟩
  exact ⟨_, _, _, _, _, _, _, _, rfl, ((Below.refl _ _).alloc (Nat.le_refl _) _).trans (hbel4.mono (by simp))⟩

set_option maxRecDepth 100000 in
set_option maxHeartbeats 1600000 in
theorem walk (A : Option Addr) (l : List UInt8) (c : Nat) (w : World) (hE : Eofs w) (hb : Bs w A l) (hc : l.length ≤ c) (hm : c ≤ maxLen) :
    Calls Tryd.prog 3 #[.slice A l.length c] w fun e w' => e = .returned (.bool true) ∧ Below w.heap.size w w' := by
  have hmk : ∀ w : World, (Instr.makeSlice 22 (.int .i64 40) (.int .i64 40)).run Tryd.prog w = .ok (.slice (some ⟨w.heap.size, 0, none⟩) 40 40) (w.alloc (.cells #[.int .u8 0, .int .u8 0, .int .u8 0, .int .u8 0, .int .u8 0, .int .u8 0, .int .u8 0, .int .u8 0, .int .u8 0, .int .u8 0, .int .u8 0, .int .u8 0, .int .u8 0, .int .u8 0, .int .u8 0, .int .u8 0, .int .u8 0, .int .u8 0, .int .u8 0, .int .u8 0, .int .u8 0, .int .u8 0, .int .u8 0, .int .u8 0, .int .u8 0, .int .u8 0, .int .u8 0, .int .u8 0, .int .u8 0, .int .u8 0, .int .u8 0, .int .u8 0, .int .u8 0, .int .u8 0, .int .u8 0, .int .u8 0, .int .u8 0, .int .u8 0, .int .u8 0, .int .u8 0] 5)) := fun _ => by kernel_rfl
  by_cases hbig : 2147483647 < l.length
  · clear hE hmk
    go_enter Tryd.func3, Tryd.ntmps3
    go_wp2_with fail
    go_ret
    exact ⟨rfl, Below.refl _ _⟩
  · have HMK := Lib.hid hmk
    clear hmk
    by_cases hi : 32 ≤ l.length
    · clear hE
      go_enter Tryd.func3, Tryd.ntmps3
      go_wp2_with fail
      refine (impl_Prog A l c _ hb hi (by omega)).mono ?_
      rintro e w1 ⟨rfl, hbel1⟩
      go_wp2_with fail
      have hF : Is ((w1.alloc (.cells #[.int .u32 (bev l 0 4 : Nat), .int .u32 (bev l 4 4 : Nat), .int .u32 (bev l 8 4 : Nat), .int .u32 (bev l 12 4 : Nat), .int .u32 (bev l 16 4 : Nat), .int .u32 (bev l 20 4 : Nat), .int .u32 (bev l 24 4 : Nat), .int .u32 (bev l 28 4 : Nat)] 24)).alloc (.cells (fields.map (Value.int .i64)).toArray 3)) (some ⟨w1.heap.size + 1, 0, none⟩) fields := by simpa using Is.new (w1.alloc (.cells #[.int .u32 (bev l 0 4 : Nat), .int .u32 (bev l 4 4 : Nat), .int .u32 (bev l 8 4 : Nat), .int .u32 (bev l 12 4 : Nat), .int .u32 (bev l 16 4 : Nat), .int .u32 (bev l 20 4 : Nat), .int .u32 (bev l 24 4 : Nat), .int .u32 (bev l 28 4 : Nat)] 24)) 3 fields
      have hgr : Grew w ((w1.alloc (.cells #[.int .u32 (bev l 0 4 : Nat), .int .u32 (bev l 4 4 : Nat), .int .u32 (bev l 8 4 : Nat), .int .u32 (bev l 12 4 : Nat), .int .u32 (bev l 16 4 : Nat), .int .u32 (bev l 20 4 : Nat), .int .u32 (bev l 24 4 : Nat), .int .u32 (bev l 28 4 : Nat)] 24)).alloc (.cells (fields.map (Value.int .i64)).toArray 3)) := (Grew.trans hbel1 (Grew.alloc _ _)).trans (Grew.alloc _ _)
      have hg3 : Blk ((w1.alloc (.cells #[.int .u32 (bev l 0 4 : Nat), .int .u32 (bev l 4 4 : Nat), .int .u32 (bev l 8 4 : Nat), .int .u32 (bev l 12 4 : Nat), .int .u32 (bev l 16 4 : Nat), .int .u32 (bev l 20 4 : Nat), .int .u32 (bev l 24 4 : Nat), .int .u32 (bev l 28 4 : Nat)] 24)).alloc (.cells (fields.map (Value.int .i64)).toArray 3)) w1.heap.size 24 #[.int .u32 (bev l 0 4 : Nat), .int .u32 (bev l 4 4 : Nat), .int .u32 (bev l 8 4 : Nat), .int .u32 (bev l 12 4 : Nat), .int .u32 (bev l 16 4 : Nat), .int .u32 (bev l 20 4 : Nat), .int .u32 (bev l 24 4 : Nat), .int .u32 (bev l 28 4 : Nat)] := (Blk.new w1 _ _).alloc _
      refine (fields_ok A (some ⟨w1.heap.size + 1, 0, none⟩) l fields c 8 _ (hb.below hgr) hF (by decide) fields_fit fields_not0 (by rw [fields_size]; omega) hc hm).mono ?_
      rintro e w3 ⟨A2, n2, c2, rfl, hown3, hbel3⟩
      obtain ⟨hu2, hn2, _, _, _⟩ := Us.of_own hown3
      rw [fields_nums l] at hu2 hn2
      obtain rfl : n2 = 8 := by rw [hn2]; rfl
      have hB3 : Grew w w3 := hgr.trans hbel3
      have hg3' := hg3.below hbel3 hg3.lt
      have hmk := HMK.out
      clear hn2 hown3 hF hg3 hgr
      go_wp2_with fail
      refine (forty w3).mono ?_
      rintro e w4 ⟨v0, v1, v2, v3, v4, v5, v6, v7, rfl, hB4⟩
      have hBw : Grew w w4 := hB3.trans hB4
      have hg4 := hg3'.below hB4 hg3'.lt
      have hu4 := hu2.below hB4
      clear hmk hg3' hu2
      go_wp2_with fail
      have hg5 := hg4.alloc (.cells #[.int .u32 v0, .int .u32 v1, .int .u32 v2, .int .u32 v3, .int .u32 v4, .int .u32 v5, .int .u32 v6, .int .u32 v7] 24)
      have hu5 := hu4.alloc (.cells #[.int .u32 v0, .int .u32 v1, .int .u32 v2, .int .u32 v3, .int .u32 v4, .int .u32 v5, .int .u32 v6, .int .u32 v7] 24)
      have hG5 : Grew w _ := hBw.trans (Grew.alloc w4 (.cells #[.int .u32 v0, .int .u32 v1, .int .u32 v2, .int .u32 v3, .int .u32 v4, .int .u32 v5, .int .u32 v6, .int .u32 v7] 24))
      generalize w4.alloc (.cells #[.int .u32 v0, .int .u32 v1, .int .u32 v2, .int .u32 v3, .int .u32 v4, .int .u32 v5, .int .u32 v6, .int .u32 v7] 24) = wL at hg5 hu5 hG5 ⊢
      have hcells : ∀ k, k < 8 → ∃ x : Nat, wL.cell? ⟨w1.heap.size, k, none⟩ = some (.int .u32 x) ∧ x < 4294967296 ∧ ([bev l 0 4, bev l 4 4, bev l 8 4, bev l 12 4, bev l 16 4, bev l 20 4, bev l 24 4, bev l 28 4][k]?.getD 0) = x := by
        intro k hk
        match k, hk with
        | 0, _ => exact ⟨bev l 0 4, by rw [hg5.cell]; rfl, bev_lt l 0 4, rfl⟩
        | 1, _ => exact ⟨bev l 4 4, by rw [hg5.cell]; rfl, bev_lt l 4 4, rfl⟩
        | 2, _ => exact ⟨bev l 8 4, by rw [hg5.cell]; rfl, bev_lt l 8 4, rfl⟩
        | 3, _ => exact ⟨bev l 12 4, by rw [hg5.cell]; rfl, bev_lt l 12 4, rfl⟩
        | 4, _ => exact ⟨bev l 16 4, by rw [hg5.cell]; rfl, bev_lt l 16 4, rfl⟩
        | 5, _ => exact ⟨bev l 20 4, by rw [hg5.cell]; rfl, bev_lt l 20 4, rfl⟩
        | 6, _ => exact ⟨bev l 24 4, by rw [hg5.cell]; rfl, bev_lt l 24 4, rfl⟩
        | 7, _ => exact ⟨bev l 28 4, by rw [hg5.cell]; rfl, bev_lt l 28 4, rfl⟩
      have HC := Lib.hid hcells
      have HU := Lib.hid hu5
      have HG := Lib.hid hG5
      clear hcells hu5 hG5 hg5 hg4 hu4 hBw hB3
      go_loopw [9] (fun i wr => ∃ k q : Nat, k ≤ 8 ∧ i = .int .i64 k ∧ wr = wL.drewN q) (fun i _ => 8 - (intOf i).toNat)
      case atStart => exact ⟨0, 0, by omega, rfl, rfl⟩
      case round =>
        obtain ⟨k, q, hk, rfl, rfl⟩ := hrel
        by_cases hlt : k < 8
        · obtain ⟨x, k1, hx, hkx⟩ := HC.out k hlt
          obtain ⟨b2, o2, rfl, _, h2⟩ := HU.out.at_ (k := k) (by simpa using hlt)
          have k2 := h2 k (by simpa using hlt)
          rw [hkx] at k2
          have hwx : IntKind.u64.wrap (x : Int) = x := IntWalk.u64_in _ (by omega)
          have HK := Lib.hid hkx
          clear h2 hkx
          go_wp2_with fail
          go_quiet (fail)
          go_wp2_with fail
          go_roundw
          case rel => exact ⟨k + 1, _, by omega, by go_num, rfl⟩
          case measure => simp [intOf]; omega
        · obtain rfl : k = 8 := by omega
          go_wp2_with fail
          go_ret
          exact ⟨by simp, HG.out.trans (Grew.drewN wL q)⟩
    · go_enter Tryd.func3, Tryd.ntmps3
      go_wp2_with fail
      refine (impls_Prog A l c _ hE hb (by omega)).mono ?_
      rintro e w1 ⟨rfl, hbel1⟩
      clear hE
      go_wp2_with fail
      have hF : Is ((w1.alloc (.cells #[.int .u32 0, .int .u32 0, .int .u32 0, .int .u32 0, .int .u32 0, .int .u32 0, .int .u32 0, .int .u32 0] 24)).alloc (.cells (fields.map (Value.int .i64)).toArray 3)) (some ⟨w1.heap.size + 1, 0, none⟩) fields := by simpa using Is.new (w1.alloc (.cells #[.int .u32 0, .int .u32 0, .int .u32 0, .int .u32 0, .int .u32 0, .int .u32 0, .int .u32 0, .int .u32 0] 24)) 3 fields
      have hgr : Grew w ((w1.alloc (.cells #[.int .u32 0, .int .u32 0, .int .u32 0, .int .u32 0, .int .u32 0, .int .u32 0, .int .u32 0, .int .u32 0] 24)).alloc (.cells (fields.map (Value.int .i64)).toArray 3)) := (Grew.trans hbel1 (Grew.alloc _ _)).trans (Grew.alloc _ _)
      refine (fields_short A (some ⟨w1.heap.size + 1, 0, none⟩) l fields c 8 _ hF (by decide) fields_fit (by rw [fields_size]; omega)).mono ?_
      rintro e w3 ⟨rfl, q3, rfl⟩
      have hmk := HMK.out
      have hB3 : Grew w _ := hgr.trans (Grew.drewN _ q3)
      generalize (((w1.alloc (.cells #[.int .u32 0, .int .u32 0, .int .u32 0, .int .u32 0, .int .u32 0, .int .u32 0, .int .u32 0, .int .u32 0] 24)).alloc (.cells (fields.map (Value.int .i64)).toArray 3))).drewN q3 = w3 at hB3 ⊢
      clear hF hgr
      go_wp2_with fail
      refine (forty w3).mono ?_
      rintro e w4 ⟨v0, v1, v2, v3, v4, v5, v6, v7, rfl, hB4⟩
      have hBw : Grew w w4 := hB3.trans hB4
      have HB := Lib.hid (hBw.trans (Grew.alloc w4 (.cells #[.int .u32 v0, .int .u32 v1, .int .u32 v2, .int .u32 v3, .int .u32 v4, .int .u32 v5, .int .u32 v6, .int .u32 v7] 24)))
      clear hmk hB3 hB4 hBw
      go_wp2_with fail
      refine wp_loop_rounds 1 ?_
      rw [rounds_succ]
      go_wp2_with fail
      go_ret
      exact ⟨by simp, HB.out⟩

set_option maxRecDepth 100000 in
theorem lifted (os : Os) (started : os.Started) (H : Type) (enc : TypeId × Value → H) (F : Stop.Interp) :
    ReturnsInHanded {} Tryd.checked os 3 .any ((OpenSpec.ofChange Rows.fnProgSpec).preRow enc Tryd.prog Tryd.f3 Rows.fnProgRow.domain false Rows.fnProgRow.laid) (((OpenSpec.ofChange Rows.fnProgSpec).at F).post enc Tryd.prog Tryd.f3 false true false false) := by
  have hx : ∃ places, DataW.whole enc Tryd.prog ((World.doorLaid Tryd.prog 400 os).forCall (fun _ _ => 0) ⟨#[], #[.slice none 0 0], []⟩).memory Tryd.f3.params.toList Rows.fnProgSpec.vars false #[Value.slice none 0 0].toList 8 = some ([.nil], [], places) := ⟨[], by kernel_rfl⟩
  obtain ⟨places, hx⟩ := hx
  refine returnsInHanded_of_row (C := Tryd.checked) (s := OpenSpec.ofChange Rows.fnProgSpec) own started (by kernel_rfl) Tryd.func3
    (witness_row_atRef (enc := enc) (C := Tryd.checked) false (World.doorLaid Tryd.prog 400 os) #[.slice none 0 0] rfl (by kernel_rfl) (by kernel_rfl) (by kernel_rfl)
      (OpenSpec.preRow_of_cond 8 hx (by kernel_rfl) (fun k hk => by cases hk) (by kernel_rfl) (door_met os _))) ?_
  intro W base args ds gs before hval0 hW _ _ _ hL _ _
  have hval : ∀ (j : Nat) t v, Tryd.f3.params[j]? = some t → args[j]? = some v → Value.okWide Tryd.prog W .any base t v := hval0
  have hW' := hW
  obtain ⟨p, q, hA0, hV, rfl, hfz, hnd⟩ := hW
  have hA : DataW.TrodAll enc Tryd.prog W 0 (fun _ => true) true Tryd.f3.params.toList args.toList ds p := hA0
  rw [Tryd.params3] at hA hval
  obtain ⟨v0, vs0, d0, ds0, p0, q0, hargs, rfl, rfl, h0, r0⟩ := trodAll_cons hA
  obtain ⟨rfl, rfl, rfl⟩ := trodAll_nil r0
  obtain rfl : args = #[v0] := by cases args; simp_all
  obtain ⟨rfl, rfl⟩ := trodVars_none hV
  have k0 := h0
  have lt0 : ∀ x ∈ p0, x.block < W.heap.size := by obtain ⟨m, hm⟩ := k0; exact DataW.trod_lt m _ _ _ hm
  obtain ⟨A, l, c, rfl, hb, hc, hm⟩ := open_bytes Tryd.underlying22 Tryd.underlying5 (by kernel_rfl) (hval 0 22 v0 rfl rfl) h0
  clear hA0 hval0
  refine (walk A l c W (eofs_of_laid hL) hb hc hm).mono fun e W' ⟨he, bel⟩ => ?_
  subst he
  exact ⟨_, rfl, _, _, _, [], _, [], hW', trodAll_mk1 (shut_bool Tryd.underlying4 _), (trodAll_cons_mk (Below.trod laidOut (by kernel_rfl) (of_decide_eq_true (by kernel_rfl)) k0 bel lt0) trodAll_mk0), rfl, bel.frame _, fun h => by cases h⟩

theorem said : Rows.FnProgSaid :=
  OpenClaim.holds_of_cond 3 Tryd.f3 rfl rfl rfl rfl rfl rfl rfl ⟨rfl, rfl, rfl, rfl, rfl⟩ rfl rfl rfl rfl rfl (by kernel_rfl) Tryd.func3 (by kernel_rfl)
    (of_decide_eq_true (by kernel_rfl)) (by unfold Func.isWrapper; first | (rw [if_pos (by decide +kernel)]; kernel_rfl) | (rw [if_neg (by decide +kernel)]; exact ⟨rfl, rfl⟩))
    (fun os started H enc _ F => by rw [OpenClaim.pre_eq_preRow]; exact lifted os started H enc F)

/-- No parameter wants a stand-in; the program's own looks are as the card says. -/
theorem plain (f : FuncId) (fn : Func) (hf : Tryd.pinned.checked.prog.funcNamed "loop.example/pub-g03341/laws.FnProg" = some f) (hfn : Tryd.pinned.checked.prog.funcs[f]? = some fn) :
    true = Tryd.pinned.checked.prog.looks [] ∧ ∀ (j : Nat) t, fn.params[j]? = some t → Tryd.pinned.checked.prog.wantsStandIn t = false := by
  obtain rfl : f = 3 := Option.some.inj ((show Tryd.prog.funcNamed "loop.example/pub-g03341/laws.FnProg" = some 3 by kernel_rfl).symm.trans hf) |>.symm
  obtain rfl : fn = Tryd.f3 := (Option.some.inj (Tryd.func3.symm.trans hfn)).symm
  refine ⟨by kernel_rfl, fun j t ht => ?_⟩
  rw [Tryd.params3] at ht
  obtain rfl : t = 22 := by simpa using Array.mem_of_getElem? ht
  exact (show Tryd.prog.wantsStandIn 22 = false by kernel_rfl)

theorem proved : Rows.FnProgCardSaid :=
  Claim7.holds_tied_plain_at .later [] _ _ _ _ said (fun _ h => by cases h) (by kernel_rfl) (fun _ h => by cases h) fnProg_row_tie rfl ⟨rfl, rfl⟩ (by kernel_rfl) rfl plain (by kernel_rfl)
end Go.Proofs.YtpdjolkbjcdimaaDoor.lawProg
