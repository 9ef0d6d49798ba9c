/- FnSymbols: for every list of symbols and every width of pointers the law returns true: a table of symbols is read as it was written. No condition. -/
import Derived.Test.YtpdjolkbjcdimaaISym
import Derived.Test.YtpdjolkbjcdimaaTab
import Derived.Test.YtpdjolkbjcdimaaRows
import Derived.Test.YtpdjolkbjcdimaaOpenSyms
namespace Go.Proofs.Ytpdjolkbjcdimaa.lawSymbols
open Go.ChangeShapes Go.WideShapes Go.ChangeAt Go.RowKit
open Go.ChangeMaps (open_string shut_string)

theorem own : ownKnob Try.prog.godebug = none := by kernel_rfl
theorem laidOut : laidOutB Try.prog = true := by kernel_rfl

def oneSym : List Sm := [⟨1, 84, ⟨#[65]⟩⟩]
theorem one_good : ∀ s ∈ oneSym, s.Good 4 := by
  intro s hs
  simp only [oneSym, List.mem_singleton] at hs
  subst hs
  exact ⟨.inl rfl, by decide, by decide, by decide⟩
theorem one_table : tbl 4 oneSym = [0, 0, 0, 1, 212, 65, 0] := by decide
theorem one_bytes (w : World) : Bs (w.alloc (.cells #[.int .u8 0, .int .u8 0, .int .u8 0, .int .u8 1, .int .u8 212, .int .u8 65, .int .u8 0] 5)) (some ⟨w.heap.size, 0, none⟩) (tbl 4 oneSym) := by
  rw [one_table]
  exact fun _ => ⟨w.heap.size, 0, rfl, by simp, fun i hi => by
    rw [cell_of_row _ w.heap.size (0 + i) _ _ (0, 0) (heap_alloc_new w _)]
    match i, hi with
    | 0, _ => rfl
    | 1, _ => rfl
    | 2, _ => rfl
    | 3, _ => rfl
    | 4, _ => rfl
    | 5, _ => rfl
    | 6, _ => rfl⟩

set_option maxRecDepth 100000 in
set_option maxHeartbeats 1600000 in
theorem walk (A : Option Addr) (xs : List Sm) (c : Nat) (p : Int) (w : World) (hp : -9223372036854775808 ≤ p ∧ p ≤ 9223372036854775807) (hS : Ss w A xs) (hn : ∀ s ∈ xs, s.n.size ≤ maxLen) (hv : ∀ s ∈ xs, s.v < 18446744073709551616) :
    Calls Try.prog 4 #[.slice A xs.length c, .int .i64 p] w fun e w' => e = .returned (.bool true) ∧ Below w.heap.size w w' := by
  have HF := Lib.hid (fits6_any A xs c w hS)
  have HS := Lib.hid hS
  have HV := Lib.hid hv
  have HN := Lib.hid hn
  clear hS hv hn
  go_enter Try.func4, Try.ntmps4
  go_wp2_with fail
  refine HF.out.mono ?_
  rintro e w1 ⟨b1, rfl, _, hb1⟩
  cases b1
  · go_wp2_with fail
    go_ret
    exact ⟨rfl, hb1⟩
  go_wp2_with fail
  refine (usuals_any A xs c p w1 hp (HS.out.below hb1) HN.out).mono ?_
  rintro e w2 ⟨b2, rfl, hus, hb2⟩
  have hB2 : Below w.heap.size w w2 := hb1.trans (hb2.mono hb1.size)
  cases b2
  · clear hus
    go_wp2_with fail
    go_ret
    exact ⟨rfl, hB2⟩
  obtain ⟨q, rfl, hu⟩ := hus rfl
  have h20 : xs.length ≤ 20 := hu.few
  have HG : Hid (∀ s ∈ xs, s.Good q) := by
    refine Lib.hid fun s hs => ?_
    obtain ⟨k1, k2, k3, k4⟩ := hu.each s hs
    refine ⟨k1, k2, ?_, k4⟩
    rcases hu.width with rfl | rfl
    · exact k3 rfl
    · exact HV.out s hs
  have HW := Lib.hid hu.width
  have HS2 := Lib.hid ((HS.out.below hb1).below hb2)
  clear hus hu
  go_wp2_with fail
  refine (table_any A xs c q w2 HS2.out HW.out HG.out h20).mono ?_
  rintro e w3 ⟨A3, N3, c3, rfl, hown3, hb3⟩
  have hB3 : Below w.heap.size w w3 := hB2.trans (hb3.mono hB2.size)
  obtain ⟨hbs3, hN3, _, _, _⟩ := Bs.of_own hown3
  have HB3 := Lib.hid hbs3
  have HN3 := Lib.hid hN3
  have hlt3 : N3 ≤ 1000000 := by
    have h1 := tbl_length q xs HG.out
    have h2 : xs.length * (q + 42) ≤ 20 * 50 := Nat.mul_le_mul h20 (by have := HW.out; omega)
    omega
  clear hown3 hbs3 hN3
  go_wp2_with fail
  refine (impl_Symbols A3 xs N3 c3 q w3 HN3.out.symm HB3.out hlt3 HW.out HG.out (by omega)).mono ?_
  rintro e w4 ⟨A4, c4, rfl, hS4, hb4⟩
  have hB4 : Below w.heap.size w w4 := hB3.trans (hb4.mono hB3.size)
  have HS4 := Lib.hid hS4
  clear hS4
  go_wp2_with fail
  refine (impl_Symbols (some ⟨w4.heap.size, 0, none⟩) oneSym 7 7 4 _ (by rw [one_table]; rfl) (one_bytes w4) (by decide) (.inl rfl) one_good (by decide)).mono ?_
  rintro e w5 ⟨A5, c5, rfl, _, hb5⟩
  have hg5 : Grew w4 w5 := (Grew.alloc w4 _).trans hb5
  have hB5 : Below w.heap.size w w5 := hB4.trans (Below.mono hg5 hB4.size)
  have h1l : (oneSym.length : Nat) = 1 := rfl
  rw [h1l]
  have hSx : Ss w5 A xs := (((HS2.out.below hb3).below hb4).below hg5)
  have HSX := Lib.hid hSx
  have HS5 := Lib.hid (HS4.out.below hg5)
  clear hSx h1l
  go_wp2_with fail
  refine (sameSyms_any A4 A xs xs.length c4 c w5 rfl HS5.out HSX.out (by omega)).mono ?_
  rintro e w6 ⟨rfl, q6, rfl⟩
  go_wp2_with fail
  go_ret
  exact ⟨by simp, hB5.trans (Below.mono (Grew.drewN w5 q6) hB5.size)⟩
set_option maxRecDepth 100000 in
theorem lifted (os : Os) (started : os.Started) (H : Type) (enc : TypeId × Value → H) :
    ReturnsInHanded {} Try.checked os 4 .any (Rows.fnSymbolsSpec.pre6 enc Try.prog Try.f4 Rows.fnSymbolsRow.domain false) (Rows.fnSymbolsSpec.post enc Try.prog Try.f4 false true false false) := by
  refine returnsInHanded_of_change (C := Try.checked) own started (by kernel_rfl) Try.func4
    (ChangeSpec.witness6 (enc := enc) (C := Try.checked) false ⟨#[], #[.slice none 0 0, .int .i64 0], []⟩ 8 (by kernel_rfl) (by kernel_rfl) (by kernel_rfl) (by kernel_rfl)) ?_
  intro W base args ds gs before hval0 hW hcnd _
  have hval : ∀ (j : Nat) t v, Try.f4.params[j]? = some t → args[j]? = some v → Value.okWide Try.prog W .any base t v := hval0
  have hW' := hW
  obtain ⟨p, q, hA0, hV, rfl, hfz, hnd⟩ := hW
  have hA : DataW.TrodAll enc Try.prog W 0 (fun _ => true) true Try.f4.params.toList args.toList ds p := hA0
  rw [Try.params4] at hA hval
  obtain ⟨v0, vs0, d0, ds0, p0, q0, hargs, rfl, rfl, h0, r0⟩ := trodAll_cons hA
  obtain ⟨v1, vs1, d1, ds1, p1, q1, rfl, rfl, rfl, h1, r1⟩ := trodAll_cons r0
  obtain ⟨rfl, rfl, rfl⟩ := trodAll_nil r1
  obtain rfl : args = #[v0, v1] := by cases args; simp_all
  obtain ⟨rfl, rfl⟩ := trodVars_none hV
  have k0 := h0
  have lt0 : ∀ x ∈ p0, x.block < W.heap.size := by obtain ⟨m, hm⟩ := k0; exact DataW.trod_lt m _ _ _ hm
  obtain ⟨A, xs, c, rfl, hS, hfit⟩ := open_syms (hval 0 22 v0 rfl rfl) h0
  obtain ⟨a1, rfl, rfl, rfl, w1⟩ := open_int Try.underlying3 (hval 1 3 v1 rfl rfl) h1
  clear hA0 hval0
  have hbd : -9223372036854775808 ≤ a1 ∧ a1 ≤ 9223372036854775807 := by simpa [Lit.wf, IntKind.min, IntKind.max, IntKind.signed, IntKind.bits] using w1
  refine (walk A xs c a1 W hbd hS (fun s hs => (hfit s hs).1) (fun s hs => (hfit s hs).2)).mono fun e W' ⟨he, bel⟩ => ?_
  subst he
  exact ⟨_, rfl, _, _, _, [], _, [], hW', trodAll_mk1 (shut_bool Try.underlying4 _), (trodAll_cons_mk (Below.trod laidOut (by kernel_rfl) (of_decide_eq_true (by kernel_rfl)) k0 bel lt0) (trodAll_cons_mk (shut_int Try.underlying3 w1) trodAll_mk0)), rfl, bel.frame _, fun h => by cases h⟩

theorem proved : Rows.FnSymbolsSaid :=
  OpenClaim.holds_of_wide 4 Try.f4 rfl rfl rfl rfl rfl rfl rfl ⟨rfl, rfl, rfl, rfl, rfl⟩ rfl rfl rfl rfl rfl (by kernel_rfl) Try.func4 (by kernel_rfl)
    (of_decide_eq_true (by kernel_rfl)) (by unfold Func.isWrapper; first | (rw [if_pos (by decide +kernel)]; kernel_rfl) | (rw [if_neg (by decide +kernel)]; exact ⟨rfl, rfl⟩))
    (fun os started H enc _ => lifted os started H enc)
end Go.Proofs.Ytpdjolkbjcdimaa.lawSymbols
