/- FnText: for every table and place the law returns true: the text of a table begins at its place (4 at least) and goes up to the first 0. No condition. -/
import Derived.Test.YtgnobmakaejjeaaGetText
import Derived.Test.YtgnobmakaejjeaaRows
import Derived.Test.YtgnobmakaejjeaaOpen
namespace Go.Proofs.Ytgnobmakaejjeaa.lawText
open Go.ChangeShapes Go.WideShapes Go.ChangeAt Go.RowKit
open Go.ChangeMaps (open_string shut_string)

theorem own : ownKnob Try.prog.godebug = none := by kernel_rfl
theorem laidOut : laidOutB Try.prog = true := by kernel_rfl

theorem six (w : World) : Bs (w.alloc (.cells #[.int .u8 0, .int .u8 0, .int .u8 0, .int .u8 6, .int .u8 65, .int .u8 0] 5)) (some ⟨w.heap.size, 0, none⟩) [0, 0, 0, 6, 65, 0] := fun _ =>
  ⟨w.heap.size, 0, rfl, by simp, fun i hi => by
    rw [cell_of_row _ w.heap.size (0 + i) _ _ (0, 0) (heap_alloc_new w _)]
    match i, hi with
    | 0, _ => rfl
    | 1, _ => rfl
    | 2, _ => rfl
    | 3, _ => rfl
    | 4, _ => rfl
    | 5, _ => rfl⟩

set_option maxHeartbeats 400000 in
theorem walk (A : Option Addr) (l : List UInt8) (c : Nat) (off : Nat) (w : World) (hb : Bs w A l) (hc : l.length ≤ c) (hm : c ≤ maxLen) (hoff : off < 4294967296) :
    Calls Try.prog 4 #[.slice A l.length c, .int .u32 off] w fun e w' => e = .returned (.bool true) ∧ Below w.heap.size w w' := by
  unfold maxLen at hm
  by_cases hbig : 2147483647 < l.length
  · go_enter Try.func4, Try.ntmps4
    go_wp2_with fail
    go_ret
    exact ⟨rfl, Below.refl _ _⟩
  · have e2 : gets [0, 0, 0, 6, 65, 0] 4 = (true, ⟨#[65]⟩) := rfl
    by_cases hin : 4 ≤ off ∧ off < l.length
    · have hg : gets l off = (true, txt (upto (l.drop off))) := if_pos hin
      obtain ⟨b, o, rfl, hbl, hcell⟩ := hb.at_ hin.2
      have hd := Bs.from_ hcell hbl off
      have h4 := hin.1
      have h5 := hin.2
      have HG := Lib.hid hg
      have E2 := Lib.hid e2
      clear hcell hg e2 hin
      go_enter Try.func4, Try.ntmps4
      go_wp2_with fail
      refine (impl_text _ l c off _ hb (by omega) hoff).mono ?_
      rintro e w1 ⟨rfl, hbel⟩
      rw [HG.out]
      go_wp2_with fail
      have hz : w.heap.size ≤ w1.heap.size := hbel.size
      refine (impl_text _ [0, 0, 0, 6, 65, 0] 6 4 _ (six w1) (by simp) (by omega)).mono ?_
      rintro e w2 ⟨rfl, hbel2⟩
      rw [E2.out]
      have hB2 : Below w.heap.size w w2 := (hbel.alloc hz _).trans (hbel2.mono (by simp; omega))
      have hd2 := hd.below hB2
      have hcv := (hd2.take (upto (l.drop off)).length).text (P := Try.prog) (upto (l.drop off)).length (c - off) (by rw [← upto_take]) 22 5 9 Try.underlying22 Try.underlying5 Try.underlying9
      rw [← upto_take] at hcv
      clear hb
      go_wp2_with fail
      refine (upto_n _ (l.drop off) _ _ _ (by simp) hd2 (by simp; omega) (by unfold maxLen; omega)).mono ?_
      rintro e w3 ⟨rfl, rfl⟩
      go_wp2_with fail
      go_ret
      exact ⟨by simp, hB2⟩
    · have hg : gets l off = (false, ⟨#[]⟩) := if_neg hin
      have HG := Lib.hid hg
      have E2 := Lib.hid e2
      clear hg e2
      by_cases h4 : off < 4
      · clear hin
        go_enter Try.func4, Try.ntmps4
        go_wp2_with fail
        refine (impl_text _ l c off _ hb (by omega) hoff).mono ?_
        rintro e w1 ⟨rfl, hbel⟩
        rw [HG.out]
        go_wp2_with fail
        have hz : w.heap.size ≤ w1.heap.size := hbel.size
        refine (impl_text _ [0, 0, 0, 6, 65, 0] 6 4 _ (six w1) (by simp) (by omega)).mono ?_
        rintro e w2 ⟨rfl, hbel2⟩
        rw [E2.out]
        go_wp2_with fail
        go_ret
        exact ⟨by simp, (hbel.alloc hz _).trans (hbel2.mono (by simp; omega))⟩
      · have h5 : l.length ≤ off := by omega
        clear hin
        go_enter Try.func4, Try.ntmps4
        go_wp2_with fail
        refine (impl_text _ l c off _ hb (by omega) hoff).mono ?_
        rintro e w1 ⟨rfl, hbel⟩
        rw [HG.out]
        go_wp2_with fail
        have hz : w.heap.size ≤ w1.heap.size := hbel.size
        refine (impl_text _ [0, 0, 0, 6, 65, 0] 6 4 _ (six w1) (by simp) (by omega)).mono ?_
        rintro e w2 ⟨rfl, hbel2⟩
        rw [E2.out]
        go_wp2_with fail
        go_ret
        exact ⟨by simp, (hbel.alloc hz _).trans (hbel2.mono (by simp; omega))⟩

set_option maxRecDepth 100000 in
theorem lifted (os : Os) (started : os.Started) (H : Type) (enc : TypeId × Value → H) :
    ReturnsInHanded {} Try.checked os 4 .any (Rows.fnTextSpec.pre6 enc Try.prog Try.f4 Rows.fnTextRow.domain false) (Rows.fnTextSpec.post enc Try.prog Try.f4 false true false false) := by
  refine returnsInHanded_of_change (C := Try.checked) own started (by kernel_rfl) Try.func4
    (ChangeSpec.witness6 (enc := enc) (C := Try.checked) false ⟨#[], #[.slice none 0 0, .int .u32 0], []⟩ 8 (by kernel_rfl) (by kernel_rfl) (by kernel_rfl) (by kernel_rfl)) ?_
  intro W base args ds gs before hval0 hW hcnd _
  have hval : ∀ (j : Nat) t v, Try.f4.params[j]? = some t → args[j]? = some v → Value.okWide Try.prog W .any base t v := hval0
  have hW' := hW
  obtain ⟨p, q, hA0, hV, rfl, hfz, hnd⟩ := hW
  have hA : DataW.TrodAll enc Try.prog W 0 (fun _ => true) true Try.f4.params.toList args.toList ds p := hA0
  rw [Try.params4] at hA hval
  obtain ⟨v0, vs0, d0, ds0, p0, q0, hargs, rfl, rfl, h0, r0⟩ := trodAll_cons hA
  obtain ⟨v1, vs1, d1, ds1, p1, q1, rfl, rfl, rfl, h1, r1⟩ := trodAll_cons r0
  obtain ⟨rfl, rfl, rfl⟩ := trodAll_nil r1
  obtain rfl : args = #[v0, v1] := by cases args; simp_all
  obtain ⟨rfl, rfl⟩ := trodVars_none hV
  have k0 := h0
  have lt0 : ∀ x ∈ p0, x.block < W.heap.size := by obtain ⟨m, hm⟩ := k0; exact DataW.trod_lt m _ _ _ hm
  obtain ⟨A, l, c, rfl, hb, hc, hm⟩ := open_bytes Try.underlying22 Try.underlying5 (by kernel_rfl) (hval 0 22 v0 rfl rfl) h0
  obtain ⟨a1, rfl, rfl, rfl, w1⟩ := open_int Try.underlying26 (hval 1 26 v1 rfl rfl) h1
  clear hA0 hval0
  have hbd : 0 ≤ a1 ∧ a1 ≤ 4294967295 := by simpa [Lit.wf, IntKind.min, IntKind.max, IntKind.signed, IntKind.bits] using w1
  obtain ⟨off, rfl⟩ := Int.eq_ofNat_of_zero_le hbd.1
  refine (walk A l c off W hb hc hm (by omega)).mono fun e W' ⟨he, bel⟩ => ?_
  subst he
  exact ⟨_, rfl, _, _, _, [], _, [], hW', trodAll_mk1 (shut_bool Try.underlying4 _), (trodAll_cons_mk (Below.trod laidOut (by kernel_rfl) (of_decide_eq_true (by kernel_rfl)) k0 bel lt0) (trodAll_cons_mk (shut_int Try.underlying26 w1) trodAll_mk0)), rfl, bel.frame _, fun h => by cases h⟩

theorem proved : Rows.FnTextSaid :=
  OpenClaim.holds_of_wide 4 Try.f4 rfl rfl rfl rfl rfl rfl rfl ⟨rfl, rfl, rfl, rfl, rfl⟩ rfl rfl rfl rfl rfl (by kernel_rfl) Try.func4 (by kernel_rfl)
    (of_decide_eq_true (by kernel_rfl)) (by unfold Func.isWrapper; first | (rw [if_pos (by decide +kernel)]; kernel_rfl) | (rw [if_neg (by decide +kernel)]; exact ⟨rfl, rfl⟩))
    (fun os started H enc _ => lifted os started H enc)
end Go.Proofs.Ytgnobmakaejjeaa.lawText
