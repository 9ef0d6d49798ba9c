/- FnProgramSymbols: for every program and every list of symbols the law returns true: the symbols of a program are those of its table. The package variables start as the program's text lays them (the card's tie). No other condition. -/
import Derived.Test.YtpdjolkbjcdimaaDoorP9Sy
import Derived.Test.YtpdjolkbjcdimaaDoorTab
import Derived.Test.YtpdjolkbjcdimaaDoorWritten
import Derived.Test.YtpdjolkbjcdimaaDoorWhole
import Derived.Test.YtpdjolkbjcdimaaDoorOpenPrg
import Derived.Test.YtpdjolkbjcdimaaDoorOpenSyms
import Derived.Test.YtpdjolkbjcdimaaDoorJobRows
import Derived.Test.YtpdjolkbjcdimaaDoorLaid4
import Derived.WalkSmall
namespace Go.Proofs.YtpdjolkbjcdimaaDoor.lawProgSyms
open Go.ChangeShapes Go.WideShapes Go.ChangeAt Go.RowKit
open Go.ChangeMaps (open_string shut_string)

theorem own : ownKnob Tryd.prog.godebug = none := by kernel_rfl
theorem laidOut : laidOutB Tryd.prog = true := by kernel_rfl

theorem wideAll (m : Nat) (w : World) (hm : m < 4294967296) : Calls Tryd.prog 12 #[.int .u32 (m : Nat)] w fun e w' => ∃ b : Bool, e = .returned (.bool b) ∧ (KnownM m → b = decide (m = 35479)) ∧ w' = w := by
  by_cases hk : KnownM m
  · exact (wide_any m w hk).mono fun e w' ⟨h1, h2⟩ => ⟨_, h1, fun _ => rfl, h2⟩
  · have HK := Lib.hid hk
    clear hk
    go_enter Tryd.func12, Tryd.ntmps12
    go_wp2_with fail
    go_ret
    exact ⟨_, rfl, fun h => absurd h HK.out, rfl⟩

set_option maxRecDepth 100000 in
set_option maxHeartbeats 1600000 in
theorem walk (p : Prg) (A : Option Addr) (xs : List Sm) (c : Nat) (w : World) (hE : Eofs w) (hp : p.stand w) (hM : p.M < 4294967296) (hB : p.B < 4294967296) (hEn : p.E < 18446744073709551616)
    (hS : Ss w A xs) (hn : ∀ s ∈ xs, s.n.size ≤ maxLen) (hv : ∀ s ∈ xs, s.v < 18446744073709551616) :
    Calls Tryd.prog 5 #[.agg p.cells, .slice A xs.length c] w fun e w' => e = .returned (.bool true) ∧ Below w.heap.size w w' := by
  have hbx : Blk (w.alloc (.cells p.cells 34)) w.heap.size 34 p.cells := Blk.new w _ _
  have hg0 : Grew w (w.alloc (.cells p.cells 34)) := Grew.alloc w _
  have hIP : (Tryd.prog.info? 34).map (·.size) = some p.cells.size := by show _ = some 8; kernel_rfl
  have HIP := Lib.hid hIP
  have HMB := Lib.hid (show _ ∧ _ ∧ _ from ⟨hM, hB, hEn⟩)
  have HW := Lib.hid (show _ ∧ _ ∧ _ from ⟨hE, hp, hS⟩)
  have HV := Lib.hid (show _ ∧ _ from ⟨hn, hv⟩)
  clear hIP hM hB hEn hE hp hS hn hv
  go_enter Tryd.func5, Tryd.ntmps5
  go_wp2_with (first | (with_reducible refine wpList_load_whole hbx 34 _ Tryd.underlying34 rfl HIP.out rfl _ rfl rfl ?_))
  generalize hgw : w.heap.size = g0 at *
  generalize w.alloc (.cells p.cells 34) = w1 at hbx hg0 ⊢
  have HG0 := Lib.hid hgw
  clear hgw
  refine (fits5_any p w1).mono ?_
  rintro e w2 ⟨b, rfl, hfit, hbel2⟩
  have hG2 : Grew w w2 := hg0.trans hbel2
  have hbx2 := hbx.below hbel2 hbx.lt
  clear hbx hg0 hbel2
  cases b
  · clear hfit hbx2
    go_wp2_with fail
    go_ret
    exact ⟨rfl, hG2⟩
  have HF := Lib.hid (hfit rfl)
  clear hfit
  go_wp2_with fail
  refine (fits6_any A xs c w2 (HW.out.2.2.below hG2)).mono ?_
  rintro e w3 ⟨b, rfl, _, hbel3⟩
  have hG3 : Grew w w3 := hG2.trans hbel3
  have hbx3 := hbx2.below hbel3 hbx2.lt
  clear hbx2 hG2 hbel3
  cases b
  · clear hbx3
    go_wp2_with fail
    go_ret
    exact ⟨rfl, hG3⟩
  have d0 : w3.cell? ⟨g0, 0, none⟩ = some (.int .u32 (p.M : Nat)) := hbx3.cell 0
  have d2 : w3.cell? ⟨g0, 2, none⟩ = some (.int .u64 (p.E : Nat)) := hbx3.cell 2
  go_wp2_with fail
  refine (wideAll p.M w3 HMB.out.1).mono ?_
  rintro e w4 ⟨b3, rfl, hb3, h4⟩
  rw [h4]
  clear h4
  have HB3 := Lib.hid hb3
  have HBX := Lib.hid (show _ ∧ _ from ⟨hbx3, hG3⟩)
  clear hb3 hbx3 hG3
  cases b3
  all_goals
    go_wp2_with fail
    refine (known_any p.M w3).mono ?_
    rintro e w5 ⟨b, rfl, hkn, hbel5⟩
    have hG5 : Grew w w5 := HBX.out.2.trans hbel5
    have hbx5 := HBX.out.1.below hbel5 HBX.out.1.lt
    cases b
    · clear hkn hbx5 hbel5
      go_wp2_with fail
      go_ret
      exact ⟨rfl, hG5⟩
    have HK := Lib.hid (hkn rfl)
    have e2 : w5.cell? ⟨g0, 2, none⟩ = some (.int .u64 (p.E : Nat)) := hbx5.cell 2
    have HBX5 := Lib.hid (show _ ∧ _ from ⟨hbx5, hG5⟩)
    clear hkn hbel5 hbx5 hG5 d0 d2
    by_cases hq : (4294967296 : Int) ≤ (p.E : Int)
    · go_wp2_with fail
      go_ret
      exact ⟨by simp, HBX5.out.2⟩
    have hdq : decide ((4294967296 : Int) ≤ (p.E : Int)) = false := decide_eq_false hq
    have HQ := Lib.hid hq
    clear hq
    go_wp2_with fail
    refine (usuals_any A xs c _ w5 (by omega) (HW.out.2.2.below HBX5.out.2) HV.out.1).mono ?_
    rintro e w6 ⟨b5, rfl, hus, hbel6⟩
    have hG6 : Grew w w6 := HBX5.out.2.trans hbel6
    have hbx6 := HBX5.out.1.below hbel6 HBX5.out.1.lt
    cases b5
    · clear hus hbx6 hbel6
      go_wp2_with fail
      go_ret
      exact ⟨by simp, hG6⟩
    obtain ⟨q, hqe, hu⟩ := hus rfl
    have hb := HB3.out HK.out
    have hpt : p.ptr = q := by
      unfold Prg.ptr
      first
        | (rw [if_pos (of_decide_eq_true hb.symm)]; omega)
        | (rw [if_neg (of_decide_eq_false hb.symm)]; omega)
    clear hb
    subst hpt
    have h20 : xs.length ≤ 20 := hu.few
    have hGood : ∀ s ∈ xs, s.Good p.ptr := fun s hs => by
      obtain ⟨k1, k2, k3, k4⟩ := hu.each s hs
      refine ⟨k1, k2, ?_, k4⟩
      rcases hu.width with hw | hw
      · rw [hw]; exact k3 hw
      · rw [hw]; exact HV.out.2 s hs
    have HT := table_any A xs c p.ptr w6 (HW.out.2.2.below hG6) hu.width hGood h20
    rw [← hqe] at HT
    have HTT := Lib.hid HT
    have HGG := Lib.hid (show _ ∧ _ ∧ _ from ⟨hGood, h20, hu.width⟩)
    have d3 : w6.cell? ⟨g0, 3, none⟩ = some (.slice p.T.A p.T.l.length p.T.c) := hbx6.cell 3
    have d4 : w6.cell? ⟨g0, 4, none⟩ = some (.slice p.D.A p.D.l.length p.D.c) := hbx6.cell 4
    have d6 : w6.cell? ⟨g0, 6, none⟩ = some (.slice p.P.A p.P.l.length p.P.c) := hbx6.cell 6
    have d7 : w6.cell? ⟨g0, 7, none⟩ = some (.slice p.Q.A p.Q.l.length p.Q.c) := hbx6.cell 7
    have HBX6 := Lib.hid (show _ ∧ _ from ⟨hbx6, hG6⟩)
    have hl1 : (p.T.l.length : Int) ≤ 2147483647 := by have := HF.out.1; omega
    have hl2 : (p.D.l.length : Int) ≤ 2147483647 := by have := HF.out.2.1; omega
    have hl4 : (p.P.l.length : Int) ≤ 2147483647 := by have := HF.out.2.2.2.1; omega
    have hl5 : (p.Q.l.length : Int) ≤ 2147483647 := by have := HF.out.2.2.2.2; omega
    clear hus hu hqe h20 hGood HT hbel6 hbx6 hG6 e2 hdq
    by_cases hsum : (1000 : Int) < (p.T.l.length : Int) + (p.D.l.length : Int) + (p.P.l.length : Int) + (p.Q.l.length : Int)
    · go_wp2_with fail
      go_ret
      exact ⟨by simp, HBX6.out.2⟩
    have hds : decide ((1000 : Int) < (p.T.l.length : Int) + (p.D.l.length : Int) + (p.P.l.length : Int) + (p.Q.l.length : Int)) = false := decide_eq_false hsum
    have HSM := Lib.hid hsum
    clear hsum
    go_wp2_with fail
    have hsm := HSM.out
    have hqq := HQ.out
    have hsumN : p.T.l.length + (p.D.l.length + (p.P.l.length + p.Q.l.length)) ≤ 1000 := by omega
    have hEN : p.E < 4294967296 := by omega
    have HEN := Lib.hid (show _ ∧ _ from ⟨hEN, hsumN⟩)
    clear d3 d4 d6 d7 hl1 hl2 hl4 hl5 hds hsm hqq hsumN hEN HSM HQ
    refine HTT.out.mono ?_
    rintro e w7 ⟨A3, N3, c3, rfl, hown3, hbel7⟩
    obtain ⟨_, hN3, _, _, _⟩ := Bs.of_own hown3
    subst hN3
    have hG7 : Grew w w7 := HBX6.out.2.trans hbel7
    have hbx7 := HBX6.out.1.below hbel7 HBX6.out.1.lt
    have z5 : ∃ u, w7.cell? ⟨g0, 5, none⟩ = some u := ⟨_, hbx7.cell 5⟩
    obtain ⟨u5, z5⟩ := z5
    have f5 := hbx7.frozen 5
    have hbx8 : Blk (w7.setCell ⟨g0, 5, none⟩ (.slice A3 (tbl p.ptr xs).length c3)) g0 34 (Prg.cells ⟨p.M, p.B, p.E, p.T, p.D, ⟨A3, tbl p.ptr xs, c3⟩, p.P, p.Q⟩) := hbx7.set_ 5 (.slice A3 (tbl p.ptr xs).length c3)
    have hG8 : Grew w (w7.setCell ⟨g0, 5, none⟩ (.slice A3 (tbl p.ptr xs).length c3)) := Below.setCell hG7 (p := ⟨g0, 5, none⟩) (Nat.le_of_eq HG0.out) _
    have hk8 : Keeps (fun b => b = g0) w7 (w7.setCell ⟨g0, 5, none⟩ (.slice A3 (tbl p.ptr xs).length c3)) := (Keeps.refl (fun b => b = g0) w7).setCell (p := ⟨g0, 5, none⟩) (fun _ => rfl) _
    have hgl := HBX6.out.1.lt
    have hbs8 := (Bs.of_own (own_keeps hown3 hk8 (fun g hg h => by
      have h' : g = g0 := h
      have := own_base hown3 g hg
      omega))).1
    have hIP' : (Tryd.prog.info? 34).map (·.size) = some (Prg.cells ⟨p.M, p.B, p.E, p.T, p.D, ⟨A3, tbl p.ptr xs, c3⟩, p.P, p.Q⟩).size := HIP.out
    have HIP' := Lib.hid hIP'
    have HBS8 := Lib.hid hbs8
    have HG8 := Lib.hid hG8
    clear hown3 hbel7 hG7 hbx7 hk8 hbs8 hG8 hIP'
    go_wp2_with (first | (with_reducible refine wpList_load_whole hbx8 34 _ Tryd.underlying34 rfl HIP'.out rfl _ rfl rfl ?_))
    have hst8 : Prg.stand ⟨p.M, p.B, p.E, p.T, p.D, ⟨A3, tbl p.ptr xs, c3⟩, p.P, p.Q⟩ (w7.setCell ⟨g0, 5, none⟩ (.slice A3 (tbl p.ptr xs).length c3)) :=
      ⟨HW.out.2.1.1.below HG8.out, HW.out.2.1.2.1.below HG8.out, HBS8.out, HW.out.2.1.2.2.2.1.below HG8.out, HW.out.2.1.2.2.2.2.below HG8.out⟩
    have hE8 := HW.out.1.below HG8.out
    have htl : (tbl p.ptr xs).length ≤ 1000 := by
      have h1 := tbl_length p.ptr xs HGG.out.1
      have h2 : xs.length * (p.ptr + 42) ≤ 20 * 50 := Nat.mul_le_mul HGG.out.2.1 (by have := HGG.out.2.2; omega)
      omega
    have H8 := Lib.hid (show _ ∧ _ ∧ _ from ⟨hst8, hE8, htl⟩)
    have hG8 := HG8.out
    clear hst8 hE8 htl z5 f5 hbx8 hgl
    generalize w7.setCell ⟨g0, 5, none⟩ (.slice A3 (tbl p.ptr xs).length c3) = w8 at *
    have hgen : ∀ P' : Prg, P' = ⟨p.M, p.B, p.E, p.T, p.D, ⟨A3, tbl p.ptr xs, c3⟩, p.P, p.Q⟩ → KnownM P'.M ∧ P'.B < 4294967296 ∧ P'.E < 4294967296 ∧ P'.T.l.length + (P'.D.l.length + (P'.S.l.length + (P'.P.l.length + P'.Q.l.length))) ≤ 900000 ∧ P'.ptr = p.ptr ∧ P'.S.l = tbl p.ptr xs := fun P' h => by
      subst h
      refine ⟨HK.out, HMB.out.2.1, HEN.out.1, ?_, rfl, rfl⟩
      have h1 := HEN.out.2
      have h2 := H8.out.2.2
      show p.T.l.length + (p.D.l.length + ((tbl p.ptr xs).length + (p.P.l.length + p.Q.l.length))) ≤ 900000
      omega
    generalize hP : (⟨p.M, p.B, p.E, p.T, p.D, ⟨A3, tbl p.ptr xs, c3⟩, p.P, p.Q⟩ : Prg) = P' at *
    have HP := Lib.hid (hgen P' rfl)
    clear hgen hP
    refine (written_any P' w8 H8.out.1 HP.out.1 HP.out.2.1 (by have := HP.out.2.2.2.1; omega)).mono ?_
    rintro e w9 ⟨A9, N9, c9, rfl, hown9, hbel9⟩
    obtain ⟨hbs9, hN9, _, _, _⟩ := Bs.of_own hown9
    have hG9 : Grew w w9 := hG8.trans hbel9
    have hlen9 : N9 ≤ 1000000 := by
      have h1 := P'.bytes_length
      have h2 := HP.out.2.2.2.1
      have h3 : P'.hdr ≤ 40 := by unfold Prg.hdr; split <;> omega
      omega
    have hE9 := H8.out.2.1.below hbel9
    have H9 := Lib.hid (show _ ∧ _ ∧ _ ∧ _ ∧ _ from ⟨hbs9, hN9, hG9, hlen9, hE9⟩)
    clear hown9 hbel9 hbs9 hN9 hG9 hlen9 hE9 hG8
    go_wp2_with fail
    refine (impl_P9Symbols A9 P' xs N9 c9 w9 H9.out.2.2.2.2 H9.out.2.1.symm H9.out.1 (P'.heads HP.out.1 HP.out.2.1 HP.out.2.2.1 HP.out.2.2.2.1) H9.out.2.2.2.1 (HP.out.2.2.2.2.2.trans (by rw [HP.out.2.2.2.2.1])) (by rw [HP.out.2.2.2.2.1]; exact HGG.out.1) (by have := HGG.out.2.1; omega)).mono ?_
    rintro e w10 ⟨A10, c10, rfl, hS10, hbel10⟩
    have hG10 : Grew w w10 := H9.out.2.2.1.trans hbel10
    have H10 := Lib.hid (show _ ∧ _ from ⟨hS10, hG10⟩)
    clear hS10 hbel10 hG10
    go_wp2_with fail
    refine (sameSyms_any A10 A xs xs.length c10 c w10 rfl H10.out.1 (HW.out.2.2.below H10.out.2) (by have := HGG.out.2.1; omega)).mono ?_
    rintro e w11 ⟨rfl, q11, rfl⟩
    go_wp2_with fail
    go_ret
    exact ⟨by simp, H10.out.2.trans (Grew.drewN w10 q11)⟩

set_option maxRecDepth 100000 in
theorem lifted (os : Os) (started : os.Started) (H : Type) (enc : TypeId × Value → H) (F : Stop.Interp) :
    ReturnsInHanded {} Tryd.checked os 5 .any ((OpenSpec.ofChange Rows.fnProgramSymbolsSpec).preRow enc Tryd.prog Tryd.f5 Rows.fnProgramSymbolsRow.domain false Rows.fnProgramSymbolsRow.laid) (((OpenSpec.ofChange Rows.fnProgramSymbolsSpec).at F).post enc Tryd.prog Tryd.f5 false true false false) := by
  have hx : (DataW.whole enc Tryd.prog ((World.doorLaid Tryd.prog 400 os).forCall (fun _ _ => 0) ⟨#[], #[.agg #[.int .u32 0, .int .u32 0, .int .u64 0, .slice none 0 0, .slice none 0 0, .slice none 0 0, .slice none 0 0, .slice none 0 0], .slice none 0 0], []⟩).memory Tryd.f5.params.toList Rows.fnProgramSymbolsSpec.vars false #[Value.agg #[.int .u32 0, .int .u32 0, .int .u64 0, .slice none 0 0, .slice none 0 0, .slice none 0 0, .slice none 0 0, .slice none 0 0], Value.slice none 0 0].toList 8).isSome = true := by kernel_rfl
  obtain ⟨x, hx⟩ := Option.isSome_iff_exists.1 hx
  refine returnsInHanded_of_row (C := Tryd.checked) (s := OpenSpec.ofChange Rows.fnProgramSymbolsSpec) own started (by kernel_rfl) Tryd.func5
    (witness_row_atRef (enc := enc) (C := Tryd.checked) false (World.doorLaid Tryd.prog 400 os) #[.agg #[.int .u32 0, .int .u32 0, .int .u64 0, .slice none 0 0, .slice none 0 0, .slice none 0 0, .slice none 0 0, .slice none 0 0], .slice none 0 0] rfl (by kernel_rfl) (by kernel_rfl) (by kernel_rfl)
      (OpenSpec.preRow_of_cond 8 hx rfl (fun k hk => by cases hk) (by kernel_rfl) (door_met4 os _))) ?_
  intro W base args ds gs before hval0 hW _ _ _ hL _ _
  have hval : ∀ (j : Nat) t v, Tryd.f5.params[j]? = some t → args[j]? = some v → Value.okWide Tryd.prog W .any base t v := hval0
  have hW' := hW
  obtain ⟨p, q, hA0, hV0, rfl, hfz, hnd⟩ := hW
  have hA : DataW.TrodAll enc Tryd.prog W 0 (fun _ => true) true Tryd.f5.params.toList args.toList ds p := hA0
  have hV : DataW.TrodVars enc Tryd.prog W (fun _ => true) ["loop.example/pub-g03341/pub/plan9obj.ErrNoSymbols"] gs q := hV0
  rw [Tryd.params5] at hA hval
  obtain ⟨v0, vs0, d0, ds0, p0, q0, hargs, rfl, rfl, h0, r0⟩ := trodAll_cons hA
  obtain ⟨v1, vs1, d1, ds1, p1, q1, rfl, rfl, rfl, h1, r1⟩ := trodAll_cons r0
  obtain ⟨rfl, rfl, rfl⟩ := trodAll_nil r1
  obtain rfl : args = #[v0, v1] := by cases args; simp_all
  obtain ⟨g, t, cs, fuel, dv, pv, rfl, hg, ht, hvar, hd, rfl⟩ := trodVars_one hV
  obtain rfl := Option.some.inj (gNo.symm.trans hg)
  obtain rfl := Option.some.inj (gNoType.symm.trans ht)
  obtain ⟨hE, a3, hv3⟩ := eofs_of_laid4 hL
  obtain rfl := Option.some.inj (hv3.symm.trans hvar)
  have hltv : ∀ x ∈ pv, x.block < W.heap.size := fun x hx => hW'.lt x (List.mem_append_right _ (List.mem_append_right _ hx))
  have hgl : 0 < W.heap.size := World.block_lt_of_cell? W ⟨0, 0, none⟩ (by simpa using World.var?_cell hg hvar 0)
  have k0 := h0
  have k1 := h1
  have lt0 : ∀ x ∈ p0, x.block < W.heap.size := by obtain ⟨m, hm⟩ := k0; exact DataW.trod_lt m _ _ _ hm
  have lt1 : ∀ x ∈ p1, x.block < W.heap.size := by obtain ⟨m, hm⟩ := k1; exact DataW.trod_lt m _ _ _ hm
  obtain ⟨P, rfl, hst, hqM, hqB, hqE⟩ := open_prog (hval 0 34 v0 rfl rfl) h0
  obtain ⟨A, xs, c, rfl, hS, hfit⟩ := open_syms (hval 1 45 v1 rfl rfl) h1
  clear hA0 hval0 hV0
  refine (walk P A xs c W hE hst hqM hqB hqE hS (fun s hs => (hfit s hs).1) (fun s hs => (hfit s hs).2)).mono fun e W' ⟨he, bel⟩ => ?_
  subst he
  obtain ⟨fuel', hd'⟩ := Below.trod laidOut (by kernel_rfl) (of_decide_eq_true (by kernel_rfl)) (v := .iface 122 (.pointer (some a3))) (⟨fuel, by simpa [Value.cells] using hd⟩ : DataW.Trod enc Tryd.prog W 0 (fun _ => true) true 54 (.iface 122 (.pointer (some a3))) dv pv) bel hltv
  have hv' := trodVars_mk1 (enc := enc) (spare := fun b => decide (b < W.heap.size)) hg ht (var?_below bel hg hgl hvar) (by simpa [Value.cells] using hd')
  exact ⟨_, rfl, _, _, _, [], _, _, hW', trodAll_mk1 (shut_bool Tryd.underlying4 _), (trodAll_cons_mk (Below.trod laidOut (by kernel_rfl) (of_decide_eq_true (by kernel_rfl)) k0 bel lt0) (trodAll_cons_mk (Below.trod laidOut (by kernel_rfl) (of_decide_eq_true (by kernel_rfl)) k1 bel lt1) trodAll_mk0)), hv', bel.frame _, fun h => by cases h⟩

theorem said : Rows.FnProgramSymbolsSaid :=
  OpenClaim.holds_of_cond 5 Tryd.f5 rfl rfl rfl rfl rfl rfl rfl ⟨rfl, rfl, rfl, rfl, rfl⟩ rfl rfl rfl rfl rfl (by kernel_rfl) Tryd.func5 (by kernel_rfl)
    (of_decide_eq_true (by kernel_rfl)) (by unfold Func.isWrapper; first | (rw [if_pos (by decide +kernel)]; kernel_rfl) | (rw [if_neg (by decide +kernel)]; exact ⟨rfl, rfl⟩))
    (fun os started H enc _ F => by rw [OpenClaim.pre_eq_preRow]; exact lifted os started H enc F)

/-- No parameter wants a stand-in; the program's own looks are as the card says. -/
theorem plain (f : FuncId) (fn : Func) (hf : Tryd.pinned.checked.prog.funcNamed "loop.example/pub-g03341/laws.FnProgramSymbols" = some f) (hfn : Tryd.pinned.checked.prog.funcs[f]? = some fn) :
    true = Tryd.pinned.checked.prog.looks [] ∧ ∀ (j : Nat) t, fn.params[j]? = some t → Tryd.pinned.checked.prog.wantsStandIn t = false := by
  obtain rfl : f = 5 := Option.some.inj ((show Tryd.prog.funcNamed "loop.example/pub-g03341/laws.FnProgramSymbols" = some 5 by kernel_rfl).symm.trans hf) |>.symm
  obtain rfl : fn = Tryd.f5 := (Option.some.inj (Tryd.func5.symm.trans hfn)).symm
  refine ⟨by kernel_rfl, fun j t ht => ?_⟩
  rw [Tryd.params5] at ht
  have hm := Array.mem_of_getElem? ht
  rcases (show t = 34 ∨ t = 45 by simpa using hm) with rfl | rfl
  · exact (show Tryd.prog.wantsStandIn 34 = false by kernel_rfl)
  · exact (show Tryd.prog.wantsStandIn 45 = false by kernel_rfl)

theorem proved : Rows.FnProgramSymbolsCardSaid :=
  Claim7.holds_tied_plain_at .later [] _ _ _ _ said (fun _ h => by cases h) (by kernel_rfl) (fun _ h => by cases h) fnProgramSymbols_row_tie rfl ⟨rfl, rfl⟩ (by kernel_rfl) rfl plain (by kernel_rfl)
end Go.Proofs.YtpdjolkbjcdimaaDoor.lawProgSyms
