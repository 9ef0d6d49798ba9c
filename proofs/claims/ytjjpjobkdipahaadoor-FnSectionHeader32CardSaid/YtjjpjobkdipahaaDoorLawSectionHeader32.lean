/- FnSectionHeader32: for every slice of bytes the law returns true: a section header of 32 bits is read from its fields, the highest byte of each first; fewer bytes are refused. The package variables start as the program's text lays them (the card's tie). No other condition. -/
import Derived.Test.YtjjpjobkdipahaaDoorImplSectionHeader32
import Derived.Test.YtjjpjobkdipahaaDoorSize
import Derived.Test.YtjjpjobkdipahaaDoorSame
import Derived.Test.YtjjpjobkdipahaaDoorLaid
import Derived.Test.YtjjpjobkdipahaaDoorOpen
namespace Go.Proofs.YtjjpjobkdipahaaDoor.lawSectionHeader32
open Go.ChangeShapes Go.WideShapes Go.ChangeAt Go.RowKit
open Go.ChangeMaps (open_string shut_string)

theorem own : ownKnob Tryd.prog.godebug = none := by kernel_rfl
theorem laidOut : laidOutB Tryd.prog = true := by kernel_rfl

def fields : List Int := [(-8), 4, 4, 4, 4, 4, 4, 2, 2, 4]
theorem spec_any (w : World) : Calls Tryd.prog 7 #[] w fun e w' => ∃ F, e = .returned (.slice F fields.length 10) ∧ Is w' F fields ∧ Below w.heap.size w w' := by
  go_enter Tryd.func7, Tryd.ntmps7
  go_wp2
  go_ret
  exact ⟨some ⟨w.heap.size, 0, none⟩, rfl, Is.new w 3 fields, (Below.refl _ _).alloc (Nat.le_refl _) _⟩
theorem fields_fit : ∀ f ∈ fields, -8 ≤ f ∧ f ≤ 8 := by decide
theorem fields_not0 : ∀ f ∈ fields, f ≠ 0 := by decide
theorem fields_size : fsize fields = 40 := rfl
theorem fields_nums (l : List UInt8) (h : 40 ≤ l.length) : fnums l 0 fields = [bev l 0 1, bev l 1 1, bev l 2 1, bev l 3 1, bev l 4 1, bev l 5 1, bev l 6 1, bev l 7 1, bev l 8 4, bev l 12 4, bev l 16 4, bev l 20 4, bev l 24 4, bev l 28 4, bev l 32 2, bev l 34 2, bev l 36 4] := by
  have hp : piece l 0 (-8) = [bev l 0 1, bev l 1 1, bev l 2 1, bev l 3 1, bev l 4 1, bev l 5 1, bev l 6 1, bev l 7 1] := by
    rw [bev_one l 0 (by omega), bev_one l 1 (by omega), bev_one l 2 (by omega), bev_one l 3 (by omega), bev_one l 4 (by omega), bev_one l 5 (by omega), bev_one l 6 (by omega), bev_one l 7 (by omega)]
    unfold piece
    rw [if_pos (by decide)]
    rfl
  show piece l 0 (-8) ++ fnums l 8 [4, 4, 4, 4, 4, 4, 2, 2, 4] = _
  rw [hp]
  simp [fnums, piece]
theorem zeros (n : Nat) (w : World) : Bs (w.alloc (.cells (List.replicate n (.int .u8 0)).toArray 5)) (some ⟨w.heap.size, 0, none⟩) (List.replicate n 0) := fun _ =>
  ⟨w.heap.size, 0, rfl, by simp, fun i hi => by
    rw [cell_of_row _ w.heap.size (0 + i) _ _ (0, 0) (heap_alloc_new w _), Nat.zero_add]
    have h : i < n := by simpa using hi
    simp [h]⟩
/-- A hundred zeros at a fresh place: impl reads them. -/
theorem hundred (w : World) : Calls Tryd.prog 5 #[.slice (some ⟨w.heap.size, 0, none⟩) 100 100] (w.alloc (.cells #[.int .u8 0, .int .u8 0, .int .u8 0, .int .u8 0, .int .u8 0, .int .u8 0, .int .u8 0, .int .u8 0, .int .u8 0, .int .u8 0, .int .u8 0, .int .u8 0, .int .u8 0, .int .u8 0, .int .u8 0, .int .u8 0, .int .u8 0, .int .u8 0, .int .u8 0, .int .u8 0, .int .u8 0, .int .u8 0, .int .u8 0, .int .u8 0, .int .u8 0, .int .u8 0, .int .u8 0, .int .u8 0, .int .u8 0, .int .u8 0, .int .u8 0, .int .u8 0, .int .u8 0, .int .u8 0, .int .u8 0, .int .u8 0, .int .u8 0, .int .u8 0, .int .u8 0, .int .u8 0, .int .u8 0, .int .u8 0, .int .u8 0, .int .u8 0, .int .u8 0, .int .u8 0, .int .u8 0, .int .u8 0, .int .u8 0, .int .u8 0, .int .u8 0, .int .u8 0, .int .u8 0, .int .u8 0, .int .u8 0, .int .u8 0, .int .u8 0, .int .u8 0, .int .u8 0, .int .u8 0, .int .u8 0, .int .u8 0, .int .u8 0, .int .u8 0, .int .u8 0, .int .u8 0, .int .u8 0, .int .u8 0, .int .u8 0, .int .u8 0, .int .u8 0, .int .u8 0, .int .u8 0, .int .u8 0, .int .u8 0, .int .u8 0, .int .u8 0, .int .u8 0, .int .u8 0, .int .u8 0, .int .u8 0, .int .u8 0, .int .u8 0, .int .u8 0, .int .u8 0, .int .u8 0, .int .u8 0, .int .u8 0, .int .u8 0, .int .u8 0, .int .u8 0, .int .u8 0, .int .u8 0, .int .u8 0, .int .u8 0, .int .u8 0, .int .u8 0, .int .u8 0, .int .u8 0, .int .u8 0] 5)) fun e w' =>
    ∃ A' n' c', e = .returned (.tuple #[.slice A' n' c', .bool true]) ∧ Below w.heap.size w w' := by
  have h := impl_SectionHeader32 (some ⟨w.heap.size, 0, none⟩) (List.replicate 100 0) 100 _ (zeros 100 w) (by rw [List.length_replicate]; decide) (by rw [List.length_replicate]; decide)
  rw [List.length_replicate] at h
  rw [show (#[.int .u8 0, .int .u8 0, .int .u8 0, .int .u8 0, .int .u8 0, .int .u8 0, .int .u8 0, .int .u8 0, .int .u8 0, .int .u8 0, .int .u8 0, .int .u8 0, .int .u8 0, .int .u8 0, .int .u8 0, .int .u8 0, .int .u8 0, .int .u8 0, .int .u8 0, .int .u8 0, .int .u8 0, .int .u8 0, .int .u8 0, .int .u8 0, .int .u8 0, .int .u8 0, .int .u8 0, .int .u8 0, .int .u8 0, .int .u8 0, .int .u8 0, .int .u8 0, .int .u8 0, .int .u8 0, .int .u8 0, .int .u8 0, .int .u8 0, .int .u8 0, .int .u8 0, .int .u8 0, .int .u8 0, .int .u8 0, .int .u8 0, .int .u8 0, .int .u8 0, .int .u8 0, .int .u8 0, .int .u8 0, .int .u8 0, .int .u8 0, .int .u8 0, .int .u8 0, .int .u8 0, .int .u8 0, .int .u8 0, .int .u8 0, .int .u8 0, .int .u8 0, .int .u8 0, .int .u8 0, .int .u8 0, .int .u8 0, .int .u8 0, .int .u8 0, .int .u8 0, .int .u8 0, .int .u8 0, .int .u8 0, .int .u8 0, .int .u8 0, .int .u8 0, .int .u8 0, .int .u8 0, .int .u8 0, .int .u8 0, .int .u8 0, .int .u8 0, .int .u8 0, .int .u8 0, .int .u8 0, .int .u8 0, .int .u8 0, .int .u8 0, .int .u8 0, .int .u8 0, .int .u8 0, .int .u8 0, .int .u8 0, .int .u8 0, .int .u8 0, .int .u8 0, .int .u8 0, .int .u8 0, .int .u8 0, .int .u8 0, .int .u8 0, .int .u8 0, .int .u8 0, .int .u8 0, .int .u8 0] : Array Value) = (List.replicate 100 (.int .u8 0)).toArray from rfl]
  refine Calls.mono h ?_
  rintro e w4 ⟨A4, n4, c4, rfl, _, _, _, _, hbel4⟩
  exact ⟨A4, n4, c4, rfl, ((Below.refl _ _).alloc (Nat.le_refl _) _).trans (hbel4.mono (by simp))⟩

set_option maxRecDepth 100000 in
set_option maxHeartbeats 1600000 in
theorem walk (A : Option Addr) (l : List UInt8) (c : Nat) (w : World) (hE : Eofs w) (hb : Bs w A l) (hc : l.length ≤ c) (hm : c ≤ maxLen) :
    Calls Tryd.prog 3 #[.slice A l.length c] w fun e w' => e = .returned (.bool true) ∧ Below w.heap.size w w' := by
  have hmk : ∀ w : World, (Instr.makeSlice 22 (.int .i64 100) (.int .i64 100)).run Tryd.prog w = .ok (.slice (some ⟨w.heap.size, 0, none⟩) 100 100) (w.alloc (.cells #[.int .u8 0, .int .u8 0, .int .u8 0, .int .u8 0, .int .u8 0, .int .u8 0, .int .u8 0, .int .u8 0, .int .u8 0, .int .u8 0, .int .u8 0, .int .u8 0, .int .u8 0, .int .u8 0, .int .u8 0, .int .u8 0, .int .u8 0, .int .u8 0, .int .u8 0, .int .u8 0, .int .u8 0, .int .u8 0, .int .u8 0, .int .u8 0, .int .u8 0, .int .u8 0, .int .u8 0, .int .u8 0, .int .u8 0, .int .u8 0, .int .u8 0, .int .u8 0, .int .u8 0, .int .u8 0, .int .u8 0, .int .u8 0, .int .u8 0, .int .u8 0, .int .u8 0, .int .u8 0, .int .u8 0, .int .u8 0, .int .u8 0, .int .u8 0, .int .u8 0, .int .u8 0, .int .u8 0, .int .u8 0, .int .u8 0, .int .u8 0, .int .u8 0, .int .u8 0, .int .u8 0, .int .u8 0, .int .u8 0, .int .u8 0, .int .u8 0, .int .u8 0, .int .u8 0, .int .u8 0, .int .u8 0, .int .u8 0, .int .u8 0, .int .u8 0, .int .u8 0, .int .u8 0, .int .u8 0, .int .u8 0, .int .u8 0, .int .u8 0, .int .u8 0, .int .u8 0, .int .u8 0, .int .u8 0, .int .u8 0, .int .u8 0, .int .u8 0, .int .u8 0, .int .u8 0, .int .u8 0, .int .u8 0, .int .u8 0, .int .u8 0, .int .u8 0, .int .u8 0, .int .u8 0, .int .u8 0, .int .u8 0, .int .u8 0, .int .u8 0, .int .u8 0, .int .u8 0, .int .u8 0, .int .u8 0, .int .u8 0, .int .u8 0, .int .u8 0, .int .u8 0, .int .u8 0, .int .u8 0] 5)) := fun _ => by kernel_rfl
  by_cases hbig : 2147483647 < l.length
  · clear hE
    go_enter Tryd.func3, Tryd.ntmps3
    go_wp2_with fail
    go_ret
    exact ⟨rfl, Below.refl _ _⟩
  · have HMK := Lib.hid hmk
    clear hmk
    by_cases hi : 40 ≤ l.length
    · clear hE
      go_enter Tryd.func3, Tryd.ntmps3
      go_wp2_with fail
      refine (impl_SectionHeader32 A l c _ hb hi (by omega)).mono ?_
      rintro e w1 ⟨A1, n1, c1, rfl, hu1, rfl, _, _, hbel1⟩
      go_wp2_with fail
      refine (spec_any _).mono ?_
      rintro e w2 ⟨F, rfl, hF, hbel2⟩
      have hB2 : Below w.heap.size w w2 := hbel1.trans (hbel2.mono hbel1.size)
      go_wp2_with fail
      refine (fields_ok A F l fields c 10 _ (hb.below hB2) hF (by decide) fields_fit fields_not0 (by rw [fields_size]; omega) hc hm).mono ?_
      rintro e w3 ⟨A2, n2, c2, rfl, hown3, hbel3⟩
      obtain ⟨hu2, hn2, _, _, _⟩ := Us.of_own hown3
      rw [fields_nums l hi] at hu2 hn2
      have hB3 : Below w.heap.size w w3 := hB2.trans (hbel3.mono hB2.size)
      have hu1' := (hu1.below hbel2).below hbel3
      obtain rfl : n2 = 17 := by rw [hn2]; rfl
      have hmk := HMK.out
      clear hn2 hown3 hu1 hF
      go_wp2_with fail
      refine (hundred w3).mono ?_
      rintro e w4 ⟨A4, n4, c4, rfl, hB4⟩
      have hBw : Below w.heap.size w w4 := hB3.trans (hB4.mono hB3.size)
      go_wp2_with fail
      refine (same_any A1 A2 [bev l 0 1, bev l 1 1, bev l 2 1, bev l 3 1, bev l 4 1, bev l 5 1, bev l 6 1, bev l 7 1, bev l 8 4, bev l 12 4, bev l 16 4, bev l 20 4, bev l 24 4, bev l 28 4, bev l 32 2, bev l 34 2, bev l 36 4] _ c1 c2 _ (by rfl) (hu1'.below hB4) (hu2.below hB4) (by simp)).mono ?_
      rintro e w5 ⟨rfl, q, rfl⟩
      go_wp2_with fail
      go_ret
      exact ⟨by simp, ((Keeps.of_below hB4 (fun _ => False)).drewN q).below (B := w.heap.size) hB3.size (fun _ h => h.elim) |> fun h => hB3.trans h⟩
    · go_enter Tryd.func3, Tryd.ntmps3
      go_wp2_with fail
      refine (impls_SectionHeader32 A l c _ hE hb (by omega)).mono ?_
      rintro e w1 ⟨rfl, hbel1⟩
      clear hE
      go_wp2_with fail
      refine (spec_any _).mono ?_
      rintro e w2 ⟨F, rfl, hF, hbel2⟩
      have hB2 : Below w.heap.size w w2 := hbel1.trans (hbel2.mono hbel1.size)
      go_wp2_with fail
      refine (fields_short A F l fields c 10 _ hF (by decide) fields_fit (by rw [fields_size]; omega)).mono ?_
      rintro e w3 ⟨rfl, q, rfl⟩
      have hmk := HMK.out
      clear hF
      go_wp2_with fail
      refine (hundred (w2.drewN q)).mono ?_
      rintro e w4 ⟨A4, n4, c4, rfl, hB4⟩
      have hB3 : Below w.heap.size w (w2.drewN q) := ⟨hB2.os, hB2.tape, hB2.output, hB2.size, hB2.block⟩
      go_wp2_with fail
      go_ret
      exact ⟨by simp, hB3.trans (hB4.mono hB3.size)⟩

set_option maxRecDepth 100000 in
theorem lifted (os : Os) (started : os.Started) (H : Type) (enc : TypeId × Value → H) (F : Stop.Interp) :
    ReturnsInHanded {} Tryd.checked os 3 .any ((OpenSpec.ofChange Rows.fnSectionHeader32Spec).preRow enc Tryd.prog Tryd.f3 Rows.fnSectionHeader32Row.domain false Rows.fnSectionHeader32Row.laid) (((OpenSpec.ofChange Rows.fnSectionHeader32Spec).at F).post enc Tryd.prog Tryd.f3 false true false false) := by
  have hx : ∃ places, DataW.whole enc Tryd.prog ((World.doorLaid Tryd.prog 400 os).forCall (fun _ _ => 0) ⟨#[], #[.slice none 0 0], []⟩).memory Tryd.f3.params.toList Rows.fnSectionHeader32Spec.vars false #[Value.slice none 0 0].toList 8 = some ([.nil], [], places) := ⟨[], by kernel_rfl⟩
  obtain ⟨places, hx⟩ := hx
  refine returnsInHanded_of_row (C := Tryd.checked) (s := OpenSpec.ofChange Rows.fnSectionHeader32Spec) own started (by kernel_rfl) Tryd.func3
    (witness_row_atRef (enc := enc) (C := Tryd.checked) false (World.doorLaid Tryd.prog 400 os) #[.slice none 0 0] rfl (by kernel_rfl) (by kernel_rfl) (by kernel_rfl)
      (OpenSpec.preRow_of_cond 8 hx (by kernel_rfl) (fun k hk => by cases hk) (by kernel_rfl) (door_met os _))) ?_
  intro W base args ds gs before hval0 hW _ _ _ hL _ _
  have hval : ∀ (j : Nat) t v, Tryd.f3.params[j]? = some t → args[j]? = some v → Value.okWide Tryd.prog W .any base t v := hval0
  have hW' := hW
  obtain ⟨p, q, hA0, hV, rfl, hfz, hnd⟩ := hW
  have hA : DataW.TrodAll enc Tryd.prog W 0 (fun _ => true) true Tryd.f3.params.toList args.toList ds p := hA0
  rw [Tryd.params3] at hA hval
  obtain ⟨v0, vs0, d0, ds0, p0, q0, hargs, rfl, rfl, h0, r0⟩ := trodAll_cons hA
  obtain ⟨rfl, rfl, rfl⟩ := trodAll_nil r0
  obtain rfl : args = #[v0] := by cases args; simp_all
  obtain ⟨rfl, rfl⟩ := trodVars_none hV
  have k0 := h0
  have lt0 : ∀ x ∈ p0, x.block < W.heap.size := by obtain ⟨m, hm⟩ := k0; exact DataW.trod_lt m _ _ _ hm
  obtain ⟨A, l, c, rfl, hb, hc, hm⟩ := open_bytes Tryd.underlying22 Tryd.underlying5 (by kernel_rfl) (hval 0 22 v0 rfl rfl) h0
  clear hA0 hval0
  refine (walk A l c W (eofs_of_laid hL) hb hc hm).mono fun e W' ⟨he, bel⟩ => ?_
  subst he
  exact ⟨_, rfl, _, _, _, [], _, [], hW', trodAll_mk1 (shut_bool Tryd.underlying4 _), (trodAll_cons_mk (Below.trod laidOut (by kernel_rfl) (of_decide_eq_true (by kernel_rfl)) k0 bel lt0) trodAll_mk0), rfl, bel.frame _, fun h => by cases h⟩

theorem said : Rows.FnSectionHeader32Said :=
  OpenClaim.holds_of_cond 3 Tryd.f3 rfl rfl rfl rfl rfl rfl rfl ⟨rfl, rfl, rfl, rfl, rfl⟩ rfl rfl rfl rfl rfl (by kernel_rfl) Tryd.func3 (by kernel_rfl)
    (of_decide_eq_true (by kernel_rfl)) (by unfold Func.isWrapper; first | (rw [if_pos (by decide +kernel)]; kernel_rfl) | (rw [if_neg (by decide +kernel)]; exact ⟨rfl, rfl⟩))
    (fun os started H enc _ F => by rw [OpenClaim.pre_eq_preRow]; exact lifted os started H enc F)

/-- No parameter wants a stand-in; the program's own looks are as the card says. -/
theorem plain (f : FuncId) (fn : Func) (hf : Tryd.pinned.checked.prog.funcNamed "loop.example/pub-g03341/laws.FnSectionHeader32" = some f) (hfn : Tryd.pinned.checked.prog.funcs[f]? = some fn) :
    true = Tryd.pinned.checked.prog.looks [] ∧ ∀ (j : Nat) t, fn.params[j]? = some t → Tryd.pinned.checked.prog.wantsStandIn t = false := by
  obtain rfl : f = 3 := Option.some.inj ((show Tryd.prog.funcNamed "loop.example/pub-g03341/laws.FnSectionHeader32" = some 3 by kernel_rfl).symm.trans hf) |>.symm
  obtain rfl : fn = Tryd.f3 := (Option.some.inj (Tryd.func3.symm.trans hfn)).symm
  refine ⟨by kernel_rfl, fun j t ht => ?_⟩
  rw [Tryd.params3] at ht
  obtain rfl : t = 22 := by simpa using Array.mem_of_getElem? ht
  exact (show Tryd.prog.wantsStandIn 22 = false by kernel_rfl)

theorem proved : Rows.FnSectionHeader32CardSaid :=
  Claim7.holds_tied_plain_at .later [] _ _ _ _ said (fun _ h => by cases h) (by kernel_rfl) (fun _ h => by cases h) fnSectionHeader32_row_tie rfl ⟨rfl, rfl⟩ (by kernel_rfl) rfl plain (by kernel_rfl)
end Go.Proofs.YtjjpjobkdipahaaDoor.lawSectionHeader32
