/- FnCString: for every slice of bytes the law returns true: the text is what stands ahead of the first 0, or all. No condition. -/
import Derived.Test.YtgnobmakaejjeaaCString
import Derived.Test.YtgnobmakaejjeaaRows
import Derived.Test.YtgnobmakaejjeaaOpen
namespace Go.Proofs.Ytgnobmakaejjeaa.lawCString
open Go.ChangeShapes Go.WideShapes Go.ChangeAt Go.RowKit
open Go.ChangeMaps (open_string shut_string)

theorem own : ownKnob Try.prog.godebug = none := by kernel_rfl
theorem laidOut : laidOutB Try.prog = true := by kernel_rfl

set_option maxHeartbeats 400000 in
theorem walk (A : Option Addr) (l : List UInt8) (c : Nat) (w : World) (hb : Bs w A l) (hc : l.length ≤ c) (hm : c ≤ maxLen) :
    Calls Try.prog 3 #[.slice A l.length c] w fun e w' => e = .returned (.bool true) ∧ Below w.heap.size w w' := by
  unfold maxLen at hm
  by_cases hbig : 2147483647 < l.length
  · go_enter Try.func3, Try.ntmps3
    go_wp2_with fail
    go_ret
    exact ⟨rfl, Below.refl _ _⟩
  · go_enter Try.func3, Try.ntmps3
    go_wp2_with fail
    refine (impl_cstring A l c _ hb (by omega)).mono ?_
    rintro e w1 ⟨rfl, hbel⟩
    go_wp2_with fail
    refine (upto_any A l c _ (hb.below hbel) hc (by unfold maxLen; omega)).mono ?_
    rintro e w2 ⟨rfl, rfl⟩
    have hcv := ((hb.below hbel).take (upto l).length).text (P := Try.prog) (upto l).length c (by rw [← upto_take]) 22 5 9 Try.underlying22 Try.underlying5 Try.underlying9
    rw [← upto_take] at hcv
    go_wp2_with fail
    have hz : w.heap.size ≤ w1.heap.size := hbel.size
    refine (impl_cstring _ [65, 0] 2 _ (fun _ => ⟨w1.heap.size, 0, rfl, by simp, fun i hi => ?_⟩) (by simp)).mono ?_
    · rw [cell_of_row _ w1.heap.size (0 + i) _ _ (0, 0) (heap_alloc_new w1 _)]
      match i, hi with
      | 0, _ => rfl
      | 1, _ => rfl
    rintro e w2 ⟨rfl, hbel2⟩
    have e2 : txt (upto [65, 0]) = ⟨#[65]⟩ := rfl
    go_wp2_with fail
    go_ret
    exact ⟨by simp, (hbel.alloc hz _).trans (hbel2.mono (by simp; omega))⟩

set_option maxRecDepth 100000 in
theorem lifted (os : Os) (started : os.Started) (H : Type) (enc : TypeId × Value → H) :
    ReturnsInHanded {} Try.checked os 3 .any (Rows.fnCStringSpec.pre6 enc Try.prog Try.f3 Rows.fnCStringRow.domain false) (Rows.fnCStringSpec.post enc Try.prog Try.f3 false true false false) := by
  refine returnsInHanded_of_change (C := Try.checked) own started (by kernel_rfl) Try.func3
    (ChangeSpec.witness6 (enc := enc) (C := Try.checked) false ⟨#[], #[.slice none 0 0], []⟩ 8 (by kernel_rfl) (by kernel_rfl) (by kernel_rfl) (by kernel_rfl)) ?_
  intro W base args ds gs before hval0 hW hcnd _
  have hval : ∀ (j : Nat) t v, Try.f3.params[j]? = some t → args[j]? = some v → Value.okWide Try.prog W .any base t v := hval0
  have hW' := hW
  obtain ⟨p, q, hA0, hV, rfl, hfz, hnd⟩ := hW
  have hA : DataW.TrodAll enc Try.prog W 0 (fun _ => true) true Try.f3.params.toList args.toList ds p := hA0
  rw [Try.params3] at hA hval
  obtain ⟨v0, vs0, d0, ds0, p0, q0, hargs, rfl, rfl, h0, r0⟩ := trodAll_cons hA
  obtain ⟨rfl, rfl, rfl⟩ := trodAll_nil r0
  obtain rfl : args = #[v0] := by cases args; simp_all
  obtain ⟨rfl, rfl⟩ := trodVars_none hV
  have k0 := h0
  have lt0 : ∀ x ∈ p0, x.block < W.heap.size := by obtain ⟨m, hm⟩ := k0; exact DataW.trod_lt m _ _ _ hm
  obtain ⟨A, l, c, rfl, hb, hc, hm⟩ := open_bytes Try.underlying22 Try.underlying5 (by kernel_rfl) (hval 0 22 v0 rfl rfl) h0
  clear hA0 hval0
  refine (walk A l c W hb hc hm).mono fun e W' ⟨he, bel⟩ => ?_
  subst he
  exact ⟨_, rfl, _, _, _, [], _, [], hW', trodAll_mk1 (shut_bool Try.underlying4 _), (trodAll_cons_mk (Below.trod laidOut (by kernel_rfl) (of_decide_eq_true (by kernel_rfl)) k0 bel lt0) trodAll_mk0), rfl, bel.frame _, fun h => by cases h⟩

theorem proved : Rows.FnCStringSaid :=
  OpenClaim.holds_of_wide 3 Try.f3 rfl rfl rfl rfl rfl rfl rfl ⟨rfl, rfl, rfl, rfl, rfl⟩ rfl rfl rfl rfl rfl (by kernel_rfl) Try.func3 (by kernel_rfl)
    (of_decide_eq_true (by kernel_rfl)) (by unfold Func.isWrapper; first | (rw [if_pos (by decide +kernel)]; kernel_rfl) | (rw [if_neg (by decide +kernel)]; exact ⟨rfl, rfl⟩))
    (fun os started H enc _ => lifted os started H enc)
end Go.Proofs.Ytgnobmakaejjeaa.lawCString
