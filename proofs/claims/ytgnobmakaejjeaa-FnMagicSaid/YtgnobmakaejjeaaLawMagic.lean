/- FnMagic: for every slice of bytes the law returns true: the magic number of a program is one of three, the highest byte first; others are refused. No condition. -/
import Derived.Test.YtgnobmakaejjeaaMagic
import Derived.Test.YtgnobmakaejjeaaNumber
import Derived.Test.YtgnobmakaejjeaaRows
import Derived.Test.YtgnobmakaejjeaaOpen
namespace Go.Proofs.Ytgnobmakaejjeaa.lawMagic
open Go.ChangeShapes Go.WideShapes Go.ChangeAt Go.RowKit
open Go.ChangeMaps (open_string shut_string)

theorem own : ownKnob Try.prog.godebug = none := by kernel_rfl
theorem laidOut : laidOutB Try.prog = true := by kernel_rfl

theorem known_any (m : Nat) (w : World) :
    Calls Try.prog 11 #[.int .u32 (m : Int)] w fun e w' => e = .returned (.bool (knownB m)) ∧ w = w' := by
  by_cases h1 : m = 491
  · subst h1
    go_enter Try.func11, Try.ntmps11
    go_wp2
    go_ret
    exact ⟨by simp [knownB], rfl⟩
  · have e1 : ((m : Int) == 491) = false := by rw [beq_eq_false_iff_ne]; omega
    by_cases h2 : m = 35479
    · subst h2
      go_enter Try.func11, Try.ntmps11
      go_wp2
      go_ret
      exact ⟨by simp [knownB], rfl⟩
    · have e2 : ((m : Int) == 35479) = false := by rw [beq_eq_false_iff_ne]; omega
      by_cases h3 : m = 1607
      · subst h3
        go_enter Try.func11, Try.ntmps11
        go_wp2
        go_ret
        exact ⟨by simp [knownB], rfl⟩
      · have e3 : ((m : Int) == 1607) = false := by rw [beq_eq_false_iff_ne]; omega
        have HK := Lib.hid (show knownB m = false by simp [knownB, h1, h2, h3])
        clear h1 h2 h3
        go_enter Try.func11, Try.ntmps11
        go_wp2
        go_ret
        exact ⟨by rw [HK.out]; simp, rfl⟩

theorem four (w : World) : Bs (w.alloc (.cells #[.int .u8 0, .int .u8 0, .int .u8 1, .int .u8 235] 5)) (some ⟨w.heap.size, 0, none⟩) [0, 0, 1, 235] := fun _ =>
  ⟨w.heap.size, 0, rfl, by simp, fun i hi => by
    rw [cell_of_row _ w.heap.size (0 + i) _ _ (0, 0) (heap_alloc_new w _)]
    match i, hi with
    | 0, _ => rfl
    | 1, _ => rfl
    | 2, _ => rfl
    | 3, _ => rfl⟩

set_option maxRecDepth 100000 in
set_option maxHeartbeats 800000 in
theorem walk (A : Option Addr) (l : List UInt8) (c : Nat) (w : World) (hb : Bs w A l) :
    Calls Try.prog 5 #[.slice A l.length c] w fun e w' => e = .returned (.bool true) ∧ Below w.heap.size w w' := by
  by_cases hbig : 2147483647 < l.length
  · go_enter Try.func5, Try.ntmps5
    go_wp2_with fail
    go_ret
    exact ⟨rfl, Below.refl _ _⟩
  · have E2 := Lib.hid (show magicOf [0, 0, 1, 235] = (true, 491) by decide +kernel)
    have hwf : (magicOf l).2 < 4294967296 := by
      unfold magicOf
      have := bev_lt l 0 4
      split <;> simp <;> omega
    by_cases h4 : l.length = 4
    · have hbe : bev l 0 4 = be l := by rw [← h4]; simp [bev]
      have hlt : be l < 4294967296 := by have h5 : be l < 256 ^ 4 := h4 ▸ be_lt l; omega
      have h44 : ((l.length : Int) != 4) = false := by rw [h4]; rfl
      have h8 : l.length ≤ 8 := by omega
      cases hk : knownB (be l) with
      | true =>
        have HM := Lib.hid (show magicOf l = (true, be l) by unfold magicOf; rw [hbe]; simp [hk, h4])
        have HK := Lib.hid hk
        clear h4 hbe hk
        go_enter Try.func5, Try.ntmps5
        go_wp2_with fail
        refine (impl_magic A l c _ hb (by omega)).mono ?_
        rintro e w1 ⟨rfl, hbel⟩
        rw [HM.out]
        go_wp2_with fail
        have hz : w.heap.size ≤ w1.heap.size := hbel.size
        refine (impl_magic _ [0, 0, 1, 235] 4 _ (four w1) (by simp)).mono ?_
        rintro e w2 ⟨rfl, hbel2⟩
        rw [E2.out]
        have hB2 : Below w.heap.size w w2 := (hbel.alloc hz _).trans (hbel2.mono (by simp; omega))
        go_wp2_with fail
        refine (number_any A l _ c _ rfl h8 (hb.below hB2)).mono ?_
        rintro e w3 ⟨rfl, rfl⟩
        go_wp2_with fail
        refine (known_any _ _).mono ?_
        rintro e w4 ⟨rfl, rfl⟩
        rw [HK.out]
        go_wp2_with fail
        go_ret
        exact ⟨by simp, hB2⟩
      | false =>
        have HM := Lib.hid (show magicOf l = (false, 0) by unfold magicOf; rw [hbe]; simp [hk, h4])
        have HK := Lib.hid hk
        clear h4 hbe hk
        go_enter Try.func5, Try.ntmps5
        go_wp2_with fail
        refine (impl_magic A l c _ hb (by omega)).mono ?_
        rintro e w1 ⟨rfl, hbel⟩
        rw [HM.out]
        go_wp2_with fail
        have hz : w.heap.size ≤ w1.heap.size := hbel.size
        refine (impl_magic _ [0, 0, 1, 235] 4 _ (four w1) (by simp)).mono ?_
        rintro e w2 ⟨rfl, hbel2⟩
        rw [E2.out]
        have hB2 : Below w.heap.size w w2 := (hbel.alloc hz _).trans (hbel2.mono (by simp; omega))
        go_wp2_with fail
        refine (number_any A l _ c _ rfl h8 (hb.below hB2)).mono ?_
        rintro e w3 ⟨rfl, rfl⟩
        go_wp2_with fail
        refine (known_any _ _).mono ?_
        rintro e w4 ⟨rfl, rfl⟩
        rw [HK.out]
        go_wp2_with fail
        go_ret
        exact ⟨by simp, hB2⟩
    · have h44 : ((l.length : Int) != 4) = true := by rw [bne_iff_ne]; omega
      clear h4
      go_enter Try.func5, Try.ntmps5
      go_wp2_with fail
      refine (impl_magic A l c _ hb (by omega)).mono ?_
      rintro e w1 ⟨rfl, hbel⟩
      go_wp2_with fail
      have hz : w.heap.size ≤ w1.heap.size := hbel.size
      refine (impl_magic _ [0, 0, 1, 235] 4 _ (four w1) (by simp)).mono ?_
      rintro e w2 ⟨rfl, hbel2⟩
      rw [E2.out]
      have hB2 : Below w.heap.size w w2 := (hbel.alloc hz _).trans (hbel2.mono (by simp; omega))
      go_wp2_with fail
      go_ret
      exact ⟨by simp, hB2⟩

set_option maxRecDepth 100000 in
theorem lifted (os : Os) (started : os.Started) (H : Type) (enc : TypeId × Value → H) :
    ReturnsInHanded {} Try.checked os 5 .any (Rows.fnMagicSpec.pre6 enc Try.prog Try.f5 Rows.fnMagicRow.domain false) (Rows.fnMagicSpec.post enc Try.prog Try.f5 false true false false) := by
  refine returnsInHanded_of_change (C := Try.checked) own started (by kernel_rfl) Try.func5
    (ChangeSpec.witness6 (enc := enc) (C := Try.checked) false ⟨#[], #[.slice none 0 0], []⟩ 8 (by kernel_rfl) (by kernel_rfl) (by kernel_rfl) (by kernel_rfl)) ?_
  intro W base args ds gs before hval0 hW hcnd _
  have hval : ∀ (j : Nat) t v, Try.f5.params[j]? = some t → args[j]? = some v → Value.okWide Try.prog W .any base t v := hval0
  have hW' := hW
  obtain ⟨p, q, hA0, hV, rfl, hfz, hnd⟩ := hW
  have hA : DataW.TrodAll enc Try.prog W 0 (fun _ => true) true Try.f5.params.toList args.toList ds p := hA0
  rw [Try.params5] at hA hval
  obtain ⟨v0, vs0, d0, ds0, p0, q0, hargs, rfl, rfl, h0, r0⟩ := trodAll_cons hA
  obtain ⟨rfl, rfl, rfl⟩ := trodAll_nil r0
  obtain rfl : args = #[v0] := by cases args; simp_all
  obtain ⟨rfl, rfl⟩ := trodVars_none hV
  have k0 := h0
  have lt0 : ∀ x ∈ p0, x.block < W.heap.size := by obtain ⟨m, hm⟩ := k0; exact DataW.trod_lt m _ _ _ hm
  obtain ⟨A, l, c, rfl, hb, hc, hm⟩ := open_bytes Try.underlying22 Try.underlying5 (by kernel_rfl) (hval 0 22 v0 rfl rfl) h0
  clear hA0 hval0
  refine (walk A l c W hb).mono fun e W' ⟨he, bel⟩ => ?_
  subst he
  exact ⟨_, rfl, _, _, _, [], _, [], hW', trodAll_mk1 (shut_bool Try.underlying4 _), (trodAll_cons_mk (Below.trod laidOut (by kernel_rfl) (of_decide_eq_true (by kernel_rfl)) k0 bel lt0) trodAll_mk0), rfl, bel.frame _, fun h => by cases h⟩

theorem proved : Rows.FnMagicSaid :=
  OpenClaim.holds_of_wide 5 Try.f5 rfl rfl rfl rfl rfl rfl rfl ⟨rfl, rfl, rfl, rfl, rfl⟩ rfl rfl rfl rfl rfl (by kernel_rfl) Try.func5 (by kernel_rfl)
    (of_decide_eq_true (by kernel_rfl)) (by unfold Func.isWrapper; first | (rw [if_pos (by decide +kernel)]; kernel_rfl) | (rw [if_neg (by decide +kernel)]; exact ⟨rfl, rfl⟩))
    (fun os started H enc _ => lifted os started H enc)
end Go.Proofs.Ytgnobmakaejjeaa.lawMagic
