/- FnWalk: for every list of symbols and every width of pointers the law returns true: walking a table that was written tells each symbol's value, kind and name. No condition. -/
import Derived.Test.YtpdjolkbjcdimaaIWalk
import Derived.Test.YtpdjolkbjcdimaaTab
import Derived.Test.YtpdjolkbjcdimaaRows
import Derived.Test.YtpdjolkbjcdimaaOpenSyms
namespace Go.Proofs.Ytpdjolkbjcdimaa.lawWalk
open Go.ChangeShapes Go.WideShapes Go.ChangeAt Go.RowKit
open Go.ChangeMaps (open_string shut_string)

theorem own : ownKnob Try.prog.godebug = none := by kernel_rfl
theorem laidOut : laidOutB Try.prog = true := by kernel_rfl

def oneSym : List Sm := [⟨1, 84, ⟨#[65]⟩⟩]
theorem one_good : ∀ s ∈ oneSym, s.Good 4 := by
  intro s hs
  simp only [oneSym, List.mem_singleton] at hs
  subst hs
  exact ⟨.inl rfl, by decide, by decide, by decide⟩
theorem one_table : tbl 4 oneSym = [0, 0, 0, 1, 212, 65, 0] := by decide
theorem one_bytes (w : World) : Bs (w.alloc (.cells #[.int .u8 0, .int .u8 0, .int .u8 0, .int .u8 1, .int .u8 212, .int .u8 65, .int .u8 0] 5)) (some ⟨w.heap.size, 0, none⟩) (tbl 4 oneSym) := by
  rw [one_table]
  exact fun _ => ⟨w.heap.size, 0, rfl, by simp, fun i hi => by
    rw [cell_of_row _ w.heap.size (0 + i) _ _ (0, 0) (heap_alloc_new w _)]
    match i, hi with
    | 0, _ => rfl
    | 1, _ => rfl
    | 2, _ => rfl
    | 3, _ => rfl
    | 4, _ => rfl
    | 5, _ => rfl
    | 6, _ => rfl⟩

set_option maxRecDepth 100000 in
set_option maxHeartbeats 1600000 in
theorem walk (A : Option Addr) (xs : List Sm) (c : Nat) (p : Int) (w : World) (hp : -9223372036854775808 ≤ p ∧ p ≤ 9223372036854775807) (hS : Ss w A xs) (hn : ∀ s ∈ xs, s.n.size ≤ maxLen) (hv : ∀ s ∈ xs, s.v < 18446744073709551616) :
    Calls Try.prog 3 #[.slice A xs.length c, .int .i64 p] w fun e w' => e = .returned (.bool true) ∧ Below w.heap.size w w' := by
  have HF := Lib.hid (fits6_any A xs c w hS)
  have HS := Lib.hid hS
  have HV := Lib.hid hv
  have HN := Lib.hid hn
  clear hS hv hn
  go_enter Try.func3, Try.ntmps3
  go_wp2_with fail
  refine HF.out.mono ?_
  rintro e w1 ⟨b1, rfl, _, hb1⟩
  cases b1
  · go_wp2_with fail
    go_ret
    exact ⟨rfl, hb1⟩
  go_wp2_with fail
  refine (usuals_any A xs c p w1 hp (HS.out.below hb1) HN.out).mono ?_
  rintro e w2 ⟨b2, rfl, hus, hb2⟩
  have hB2 : Below w.heap.size w w2 := hb1.trans (hb2.mono hb1.size)
  cases b2
  · clear hus
    go_wp2_with fail
    go_ret
    exact ⟨rfl, hB2⟩
  obtain ⟨q, rfl, hu⟩ := hus rfl
  have h20 : xs.length ≤ 20 := hu.few
  have HG : Hid (∀ s ∈ xs, s.Good q) := by
    refine Lib.hid fun s hs => ?_
    obtain ⟨k1, k2, k3, k4⟩ := hu.each s hs
    refine ⟨k1, k2, ?_, k4⟩
    rcases hu.width with rfl | rfl
    · exact k3 rfl
    · exact HV.out s hs
  have HW := Lib.hid hu.width
  have HS2 := Lib.hid ((HS.out.below hb1).below hb2)
  clear hus hu
  go_wp2_with fail
  refine (table_any A xs c q w2 HS2.out HW.out HG.out h20).mono ?_
  rintro e w3 ⟨A3, N3, c3, rfl, hown3, hb3⟩
  have hB3 : Below w.heap.size w w3 := hB2.trans (hb3.mono hB2.size)
  obtain ⟨hbs3, hN3, _, _, _⟩ := Bs.of_own hown3
  have HB3 := Lib.hid hbs3
  have HN3 := Lib.hid hN3
  have hlt3 : N3 ≤ 1000000 := by
    have h1 := tbl_length q xs HG.out
    have h2 : xs.length * (q + 42) ≤ 20 * 50 := Nat.mul_le_mul h20 (by have := HW.out; omega)
    omega
  clear hown3 hbs3 hN3
  go_wp2_with fail
  refine (impl_Walk A3 xs N3 c3 q w3 HN3.out.symm HB3.out hlt3 HW.out HG.out (by omega)).mono ?_
  rintro e w4 ⟨V4, v4, K4, k4, A4, c4, qs, rfl, hoV, hoK, hoN, hqs, hbq, hb4⟩
  have hB4 : Below w.heap.size w w4 := hB3.trans (hb4.mono hB3.size)
  have HO4 := Lib.hid (show _ ∧ _ ∧ _ ∧ _ from ⟨hoV, hoK, hoN, hbq⟩)
  have HQ := Lib.hid hqs
  clear hoV hoK hoN hqs hbq
  go_wp2_with fail
  refine (impl_Walk (some ⟨w4.heap.size, 0, none⟩) oneSym 7 7 4 _ (by rw [one_table]; rfl) (one_bytes w4) (by decide) (.inl rfl) one_good (by decide)).mono ?_
  rintro e w5 ⟨V5, v5, K5, k5, A5, c5, _, rfl, _, _, _, _, _, hb5⟩
  have hg5 : Grew w4 w5 := (Grew.alloc w4 _).trans hb5
  have hB5 : Below w.heap.size w w5 := hB4.trans (Below.mono hg5 hB4.size)
  have h1l : (oneSym.length : Nat) = 1 := rfl
  rw [h1l]
  have hSx : Ss w5 A xs := (((HS2.out.below hb3).below hb4).below hg5)
  have HSX := Lib.hid hSx
  have HO5 := Lib.hid (show w5.ownsRow w3.heap.size 31 1 (.slice V4 xs.length v4) xs.length (vals64 xs) ∧ w5.ownsRow w3.heap.size 5 1 (.slice K4 xs.length k4) xs.length (vals8 xs) ∧ w5.ownsRow w3.heap.size 26 1 (.slice A4 xs.length c4) xs.length (qs.map Piece.val) ∧ ∀ q ∈ qs, Bs w5 q.A q.l from ⟨own_grew HO4.out.1 hg5, own_grew HO4.out.2.1 hg5, own_grew HO4.out.2.2.1 hg5, fun q hq => (HO4.out.2.2.2 q hq).below hg5⟩)
  clear hSx h1l HO4
  have HB5 := Lib.hid hB5
  clear hB5 hB4 hB3 hB2 hb3 hb4 hb5 hg5 hb1 hb2
  go_wp2_with fail
  go_loopw [13] (fun i wr => ∃ k q : Nat, k ≤ xs.length ∧ i = .int .i64 k ∧ wr = w5.drewN q) (fun i _ => xs.length - (intOf i).toNat)
  case atStart => exact ⟨0, 0, Nat.zero_le _, rfl, rfl⟩
  case round =>
    obtain ⟨k, q', hk, rfl, rfl⟩ := hrel
    by_cases hlt : k < xs.length
    · obtain ⟨b1, o1, rfl, _, h1⟩ := HSX.out.at_ hlt
      obtain ⟨c0, c1, c2⟩ := h1 k xs[k] (List.getElem?_eq_getElem hlt)
      obtain ⟨bv, rfl, _, _, dv⟩ := own_cell HO5.out.1 (i := k) (u := .int .u64 xs[k].v) (by simp [vals64, List.getElem?_eq_getElem hlt])
      obtain ⟨bk, rfl, _, _, dk⟩ := own_cell HO5.out.2.1 (i := k) (u := .int .u8 xs[k].t) (by simp [vals8, List.getElem?_eq_getElem hlt])
      have hqn : qs.length = xs.length := by have := congrArg List.length HQ.out; simpa using this
      have hqx : qs[k]? = some qs[k] := List.getElem?_eq_getElem (by omega)
      obtain ⟨bn, rfl, _, _, dn⟩ := own_cell HO5.out.2.2.1 (i := k) (u := qs[k].val) (by rw [List.getElem?_map, hqx]; rfl)
      have hql : qs[k].l = xs[k].n.data.toList := by
        have h9 : (qs.map (·.l))[k]? = some qs[k].l := by rw [List.getElem?_map, hqx]; rfl
        rw [HQ.out, List.getElem?_map, List.getElem?_eq_getElem hlt] at h9
        injection h9 with h9
        exact h9.symm
      have hbt := HO5.out.2.2.2 qs[k] (List.getElem_mem _)
      have hgk := (HG.out xs[k] (List.getElem_mem _)).kind
      generalize xs[k] = s at c0 c1 c2 dv dk hql hgk
      generalize qs[k] = pq at dn hql hbt
      obtain ⟨pA, pl, pc⟩ := pq
      simp only at hql
      subst hql
      have hsz : s.n.data.toList.length = s.n.size := by simp
      have dn' : w5.cell? ⟨bn, k, none⟩ = some (.slice pA s.n.size pc) := by rw [← hsz]; exact dn
      have hcv := fun n => (hbt.drewN n).text (P := Try.prog) s.n.size pc (by simp) 26 5 9 Try.underlying26 Try.underlying5 Try.underlying9
      have htx : txt s.n.data.toList = s.n := by simp [txt]
      rw [htx] at hcv
      have hwr : IntKind.i64.wrap s.t = s.t := by rcases hgk with h | h | h | h | h | h <;> rw [h] <;> decide
      have hk3 : (0 : Int) ≤ (k : Int) := by omega
      clear h1 dn hqx hgk hqn hsz
      clear HF HS HS2 HSX HO5 HB5
      go_wp2_with fail
      go_quiet (fail)
      go_wp2_with fail
      go_roundw
      case rel => exact ⟨k + 1, _, by omega, by go_num, rfl⟩
      case measure => simp [intOf]; omega
    · obtain rfl : k = xs.length := by omega
      go_wp2_with fail
      go_ret
      exact ⟨by simp, HB5.out.trans (Below.mono (Grew.drewN w5 q') HB5.out.size)⟩
set_option maxRecDepth 100000 in
theorem lifted (os : Os) (started : os.Started) (H : Type) (enc : TypeId × Value → H) :
    ReturnsInHanded {} Try.checked os 3 .any (Rows.fnWalkSpec.pre6 enc Try.prog Try.f3 Rows.fnWalkRow.domain false) (Rows.fnWalkSpec.post enc Try.prog Try.f3 false true false false) := by
  refine returnsInHanded_of_change (C := Try.checked) own started (by kernel_rfl) Try.func3
    (ChangeSpec.witness6 (enc := enc) (C := Try.checked) false ⟨#[], #[.slice none 0 0, .int .i64 0], []⟩ 8 (by kernel_rfl) (by kernel_rfl) (by kernel_rfl) (by kernel_rfl)) ?_
  intro W base args ds gs before hval0 hW hcnd _
  have hval : ∀ (j : Nat) t v, Try.f3.params[j]? = some t → args[j]? = some v → Value.okWide Try.prog W .any base t v := hval0
  have hW' := hW
  obtain ⟨p, q, hA0, hV, rfl, hfz, hnd⟩ := hW
  have hA : DataW.TrodAll enc Try.prog W 0 (fun _ => true) true Try.f3.params.toList args.toList ds p := hA0
  rw [Try.params3] at hA hval
  obtain ⟨v0, vs0, d0, ds0, p0, q0, hargs, rfl, rfl, h0, r0⟩ := trodAll_cons hA
  obtain ⟨v1, vs1, d1, ds1, p1, q1, rfl, rfl, rfl, h1, r1⟩ := trodAll_cons r0
  obtain ⟨rfl, rfl, rfl⟩ := trodAll_nil r1
  obtain rfl : args = #[v0, v1] := by cases args; simp_all
  obtain ⟨rfl, rfl⟩ := trodVars_none hV
  have k0 := h0
  have lt0 : ∀ x ∈ p0, x.block < W.heap.size := by obtain ⟨m, hm⟩ := k0; exact DataW.trod_lt m _ _ _ hm
  obtain ⟨A, xs, c, rfl, hS, hfit⟩ := open_syms (hval 0 22 v0 rfl rfl) h0
  obtain ⟨a1, rfl, rfl, rfl, w1⟩ := open_int Try.underlying3 (hval 1 3 v1 rfl rfl) h1
  clear hA0 hval0
  have hbd : -9223372036854775808 ≤ a1 ∧ a1 ≤ 9223372036854775807 := by simpa [Lit.wf, IntKind.min, IntKind.max, IntKind.signed, IntKind.bits] using w1
  refine (walk A xs c a1 W hbd hS (fun s hs => (hfit s hs).1) (fun s hs => (hfit s hs).2)).mono fun e W' ⟨he, bel⟩ => ?_
  subst he
  exact ⟨_, rfl, _, _, _, [], _, [], hW', trodAll_mk1 (shut_bool Try.underlying4 _), (trodAll_cons_mk (Below.trod laidOut (by kernel_rfl) (of_decide_eq_true (by kernel_rfl)) k0 bel lt0) (trodAll_cons_mk (shut_int Try.underlying3 w1) trodAll_mk0)), rfl, bel.frame _, fun h => by cases h⟩

theorem proved : Rows.FnWalkSaid :=
  OpenClaim.holds_of_wide 3 Try.f3 rfl rfl rfl rfl rfl rfl rfl ⟨rfl, rfl, rfl, rfl, rfl⟩ rfl rfl rfl rfl rfl (by kernel_rfl) Try.func3 (by kernel_rfl)
    (of_decide_eq_true (by kernel_rfl)) (by unfold Func.isWrapper; first | (rw [if_pos (by decide +kernel)]; kernel_rfl) | (rw [if_neg (by decide +kernel)]; exact ⟨rfl, rfl⟩))
    (fun os started H enc _ => lifted os started H enc)
end Go.Proofs.Ytpdjolkbjcdimaa.lawWalk
