/- The reference's Table: symbols as bytes. -/
import Derived.Test.YtpdjolkbjcdimaaDoorSyms
import Derived.Test.YtpdjolkbjcdimaaDoorBytes
import Derived.Test.YtpdjolkbjcdimaaDoorJoined
import Derived.Test.YtpdjolkbjcdimaaDoorGrow
namespace Go.Proofs.YtpdjolkbjcdimaaDoor
open Go.RowKit

set_option maxRecDepth 100000 in
set_option maxHeartbeats 1600000 in
theorem table_any (A : Option Addr) (xs : List Sm) (c p : Nat) (w : World) (hS : Ss w A xs) (hp : p = 4 ∨ p = 8) (hG : ∀ s ∈ xs, s.Good p) (h20 : xs.length ≤ 20) :
    Calls Tryd.prog 17 #[.slice A xs.length c, .int .i64 p] w fun e w' => ∃ A' N c', e = .returned (.slice A' N c') ∧ w'.ownsRow w.heap.size 5 1 (.slice A' N c') N (bvs (tbl p xs)) ∧ Below w.heap.size w w' := by
  go_enter Tryd.func17, Tryd.ntmps17
  go_wp2_with fail
  go_loopw [5, 6] (fun out i wr => ∃ (k N : Nat) (A' : Option Addr) (c' : Nat), k ≤ xs.length ∧ i = .int .i64 k ∧ out = .slice A' N c' ∧ wr.ownsRow w.heap.size 5 1 (.slice A' N c') N (bvs (tbl p (xs.take k))) ∧ Below w.heap.size w wr) (fun _ i _ => xs.length - (intOf i).toNat)
  case atStart =>
    refine ⟨0, 0, _, 0, Nat.zero_le _, rfl, rfl, ?_, (Below.refl _ _).alloc (Nat.le_refl _) _⟩
    exact ⟨by simp [bvs, tbl], .inr ⟨w.heap.size, 0, #[], rfl, Nat.le_refl _, heap_alloc_new w _, Nat.le_refl _, by simp [maxLen], by simp, by simp [bvs, tbl]⟩⟩
  case round =>
    obtain ⟨k, N, A', c', hk, rfl, rfl, hown, hbel⟩ := hrel
    by_cases hlt : k < xs.length
    · obtain ⟨b, o, rfl, hb, hcell⟩ := hS.at_ hlt
      have hxk : xs[k]? = some xs[k] := List.getElem?_eq_getElem hlt
      obtain ⟨c0, c1, c2⟩ := hcell k xs[k] hxk
      have hgood := hG xs[k] (List.getElem_mem _)
      have hsnoc : xs.take (k + 1) = xs.take k ++ [xs[k]] := List.take_succ_eq_append_getElem hlt
      generalize xs[k] = s at c0 c1 c2 hxk hgood hsnoc
      have d0 := (hbel.cell (p := ⟨b, o + k * 3, none⟩) hb).trans c0
      have d1 := (hbel.cell (p := ⟨b, o + k * 3 + 1, none⟩) hb).trans c1
      have d2 := (hbel.cell (p := ⟨b, o + k * 3 + 2, none⟩) hb).trans c2
      clear hcell c0 c1 c2 hS hxk
      have HSN := Lib.hid hsnoc
      have HG := Lib.hid (show ∀ x ∈ xs.take (k + 1), x.Good p from fun x hx => hG x (List.mem_of_mem_take hx))
      clear hsnoc hG
      have hk3 : (0 : Int) ≤ (k : Int) := by omega
      go_wp2_with fail
      refine wp_region_held_drew (S := Grew wr.drew) (by kernel_rfl) (Grew.refl _) (fun hHeld => ?_)
      refine takeT 0 rfl rfl (by kernel_rfl) (by kernel_rfl) (by kernel_rfl) (fun _ _ _ h => h) hHeld rfl (fun W hW => by go_simp; rfl) ?_
      simp only [List.set_cons_zero, List.set_cons_succ]
      refine takeT 1 rfl rfl (by kernel_rfl) (by kernel_rfl) (by kernel_rfl) (fun _ _ _ h => h) hHeld rfl (fun W hW => by go_simp; rfl) ?_
      simp only [List.set_cons_zero, List.set_cons_succ]
      refine takeT 2 rfl rfl (by kernel_rfl) (by kernel_rfl) (by kernel_rfl) (fun _ _ _ h => h) hHeld rfl (fun W hW => by go_simp; rfl) ?_
      simp only [List.set_cons_zero, List.set_cons_succ]
      refine takeT 3 rfl rfl (by kernel_rfl) (by kernel_rfl) (by kernel_rfl) (fun _ _ _ h => h) hHeld rfl (fun W hW => by go_simp; rfl) ?_
      simp only [List.set_cons_zero, List.set_cons_succ]
      refine takeT 4 rfl rfl (by kernel_rfl) (by kernel_rfl) (by kernel_rfl) (fun _ _ _ h => h) hHeld rfl (fun W hW => by go_simp; rfl) ?_
      simp only [List.set_cons_zero, List.set_cons_succ]
      refine takeT 5 rfl rfl (by kernel_rfl) (by kernel_rfl) (by kernel_rfl) (fun _ _ _ h => h) hHeld rfl (fun W hW => by have e0 := hW.cell d0; go_simp; rfl) ?_
      simp only [List.set_cons_zero, List.set_cons_succ]
      refine takeT 6 rfl rfl (by kernel_rfl) (by kernel_rfl) (by kernel_rfl) (fun _ _ _ h => h) hHeld rfl (fun W hW => by go_simp; rfl) ?_
      simp only [List.set_cons_zero, List.set_cons_succ]
      refine takeT 8 rfl rfl (by kernel_rfl) (by kernel_rfl) (by kernel_rfl) (fun _ _ _ h => h) hHeld rfl (fun W hW => by go_simp; rfl) ?_
      simp only [List.set_cons_zero, List.set_cons_succ]
      refine takeT 9 rfl rfl (by kernel_rfl) (by kernel_rfl) (by kernel_rfl) (fun _ _ _ h => h) hHeld rfl (fun W hW => by go_simp; rfl) ?_
      simp only [List.set_cons_zero, List.set_cons_succ]
      refine takeT 10 rfl rfl (by kernel_rfl) (by kernel_rfl) (by kernel_rfl) (fun _ _ _ h => h) hHeld rfl (fun W hW => by go_simp; rfl) ?_
      simp only [List.set_cons_zero, List.set_cons_succ]
      refine takeT 11 rfl rfl (by kernel_rfl) (by kernel_rfl) (by kernel_rfl) (fun _ _ _ h => h) hHeld rfl (fun W hW => by go_simp; rfl) ?_
      simp only [List.set_cons_zero, List.set_cons_succ]
      refine takeT 12 rfl rfl (by kernel_rfl) (by kernel_rfl) (by kernel_rfl) (fun _ _ _ h => h) hHeld rfl (fun W hW => by have e0 := hW.cell d1; go_simp; rfl) ?_
      simp only [List.set_cons_zero, List.set_cons_succ]
      refine takeT 13 rfl rfl (by kernel_rfl) (by kernel_rfl) (by kernel_rfl) (fun _ _ _ h => h) hHeld rfl (fun W hW => by go_simp; rfl) ?_
      simp only [List.set_cons_zero, List.set_cons_succ]
      refine takeT 14 rfl rfl (by kernel_rfl) (by kernel_rfl) (by kernel_rfl) (fun _ _ _ h => h) hHeld rfl (fun W hW => by go_simp; rfl) ?_
      simp only [List.set_cons_zero, List.set_cons_succ]
      refine takeT 16 rfl rfl (by kernel_rfl) (by kernel_rfl) (by kernel_rfl) (fun _ _ _ h => h) hHeld rfl (fun W hW => by go_simp; rfl) ?_
      simp only [List.set_cons_zero, List.set_cons_succ]
      refine takeT 17 rfl rfl (by kernel_rfl) (by kernel_rfl) (by kernel_rfl) (fun _ _ _ h => h) hHeld rfl (fun W hW => by go_simp; rfl) ?_
      simp only [List.set_cons_zero, List.set_cons_succ]
      refine takeT 18 rfl rfl (by kernel_rfl) (by kernel_rfl) (by kernel_rfl) (fun _ _ _ h => h) hHeld rfl (fun W hW => by go_simp; rfl) ?_
      simp only [List.set_cons_zero, List.set_cons_succ]
      refine takeT 19 rfl rfl (by kernel_rfl) (by kernel_rfl) (by kernel_rfl) (fun _ _ _ h => h) hHeld rfl (fun W hW => by go_simp; rfl) ?_
      simp only [List.set_cons_zero, List.set_cons_succ]
      refine takeT 20 rfl rfl (by kernel_rfl) (by kernel_rfl) (by kernel_rfl) (fun _ _ _ h => h) hHeld rfl (fun W hW => by have e0 := hW.cell d2; go_simp; rfl) ?_
      simp only [List.set_cons_zero, List.set_cons_succ]
      have hu : IntKind.u8.wrap (IntKind.u8.wrap s.t + 128) = ((UInt8.ofNat (s.t.toNat + 128)).toNat : Int) := by
        rcases hgood.kind with h | h | h | h | h | h <;> rw [h] <;> rfl
      rw [hu]
      clear hu
      generalize hkb : UInt8.ofNat (s.t.toNat + 128) = kb
      have HKB := Lib.hid hkb
      clear hkb
      have hp8 : p ≤ 8 := by omega
      refine wpAnyH_grow0 [gjob 7 [] (BsV (bes s.v p)), gjob 15 [] (BsV [kb]), gjob 21 [] (BsV s.n.data.toList), gjob 22 [] (BsV [0])] 3 5 (by kernel_rfl) rfl (by kernel_rfl) hHeld ?_ ?_ ?_
      · intro q hq
        simp only [List.mem_cons, List.not_mem_nil, or_false] at hq
        rcases hq with rfl | rfl | rfl | rfl <;> exact ⟨rfl, rfl, rfl, BsV.stays _⟩
      · intro q hq W hW
        simp only [List.mem_cons, List.not_mem_nil, or_false] at hq
        rcases hq with rfl | rfl | rfl | rfl
        · refine does_enter 7 rfl rfl rfl (by go_simp) ((bytes_any s.v p W hp8).mono ?_)
          rintro e w1 ⟨A1, c1, rfl, hown1, hb1⟩
          refine ⟨_, rfl, hb1, ?_⟩
          obtain ⟨h1, h2, _⟩ := Bs.of_own hown1
          rw [bes_length] at h2
          exact ⟨A1, c1, by rw [bes_length], h1⟩
        · exact does_value 15 rfl rfl rfl (by go_simp; rfl) (Grew.alloc _ _) (BsV.one _ _ _ rfl)
        · obtain ⟨c3, w3, hcv, hb3, hg3, _, _⟩ := conv_bytes (P := Tryd.prog) W W.heap.size rfl 9 22 5 s.n Tryd.underlying9 Tryd.underlying22 Tryd.underlying5 (by have := hgood.short; simp only [maxLen]; omega)
          exact does_value 21 rfl rfl rfl (by go_simp; rfl) hg3 ⟨_, c3, by simp, hb3⟩
        · exact does_value 22 rfl rfl rfl (by go_simp; rfl) (Grew.alloc _ _) (BsV.one _ _ _ rfl)
      · intro vs W hW hpost
        simp only [gjob, List.forall_mem_cons] at hpost
        obtain ⟨⟨A1, c1, e1, hb1⟩, ⟨A2, c2, e2, hb2⟩, ⟨A3, c3, e3, hb3⟩, ⟨A4, c4, e4, hb4⟩, _⟩ := hpost
        replace e1 : vs 7 = .slice A1 p c1 := by rw [e1, bes_length]
        replace e2 : vs 15 = .slice A2 1 c2 := e2
        replace e3 : vs 21 = .slice A3 s.n.size c3 := e3
        replace e4 : vs 22 = .slice A4 1 c4 := e4
        refine putsT 7 21 rfl (putsT 15 29 rfl (putsT 21 35 rfl (putsT 22 36 rfl (putsN ?_))))
        rw [e1, e2, e3, e4]
        simp only [List.set_cons_zero, List.set_cons_succ]
        have hgW : Grew wr W := (Grew.drew wr).trans hW
        have hgw : Grew w wr := hbel
        have hbo : Bs W A' (tbl p (xs.take k)) := (Bs.of_own hown).1.below hgW
        have hNl : N = (tbl p (xs.take k)).length := (Bs.of_own hown).2.1
        subst hNl
        generalize hps : ([⟨A', tbl p (xs.take k), c'⟩, ⟨A1, bes s.v p, c1⟩, ⟨A2, [kb], c2⟩, ⟨A3, s.n.data.toList, c3⟩, ⟨A4, [0], c4⟩] : List Piece) = ps
        have HPS := Lib.hid hps
        have hvals : ps.map Piece.val = [.slice A' (tbl p (xs.take k)).length c', .slice A1 p c1, .slice A2 1 c2, .slice A3 s.n.size c3, .slice A4 1 c4] := by rw [← hps]; simp only [List.map_cons, List.map_nil, Piece.val, bes_length]; rfl
        have hflat : flat ps = tbl p (xs.take (k + 1)) := by
          rw [HSN.out, tbl_snoc, ← hps]
          simp [flat, Sm.bytes, ← HKB.out]
        have hbs : ∀ q ∈ ps, Bs W q.A q.l := by
          rw [← hps]
          simp only [List.forall_mem_cons, List.not_mem_nil, false_implies, implies_true, and_true]
          exact ⟨hbo, hb1, hb2, hb3, hb4⟩
        clear hps
        refine wpAnyH_grow0 [gjob 23 [] (RowV (ps.map Piece.val))] 2 5 (by kernel_rfl) rfl (by kernel_rfl) hW ?_ ?_ ?_
        · intro q hq
          simp only [List.mem_cons, List.not_mem_nil, or_false] at hq
          subst hq
          exact ⟨rfl, rfl, rfl, RowV.stays _⟩
        · intro q hq W1 hW1
          simp only [List.mem_cons, List.not_mem_nil, or_false] at hq
          subst hq
          exact does_value 23 rfl rfl rfl (by go_simp; exact ⟨rfl, rfl⟩) (Grew.alloc _ _) (by rw [hvals]; exact RowV.new _ _ _ rfl)
        intro vs1 W1 hW1' hpost1
        have hW1 := hW.trans hW1'
        simp only [gjob, List.forall_mem_cons] at hpost1
        obtain ⟨⟨g, eg, hglt, hgc⟩, _⟩ := hpost1
        have hlen : ps.length = 5 := by have := congrArg List.length hvals; simpa using this
        replace eg : vs1 23 = .slice (some ⟨g, 0, none⟩) 5 5 := by rw [eg, List.length_map, hlen]
        refine putsT 23 37 rfl (putsN ?_)
        rw [eg]
        simp only [List.set_cons_zero, List.set_cons_succ]
        have hgrew : Grew w W1 := (hgw.trans (Grew.drew wr)).trans hW1
        refine wpAnyH_grow0 [gjob 24 [] (OwnV w.heap.size 5 (bvs (tbl p (xs.take (k + 1)))))] 1 5 (by kernel_rfl) rfl (by kernel_rfl) hW1 ?_ ?_ ?_
        · intro q hq
          simp only [List.mem_cons, List.not_mem_nil, or_false] at hq
          subst hq
          exact ⟨rfl, rfl, rfl, OwnV.stays _ _ _⟩
        · intro q hq W2 hW2
          simp only [List.mem_cons, List.not_mem_nil, or_false] at hq
          subst hq
          have hpn : (ps.map Piece.val).length = 5 := by rw [List.length_map, hlen]
          have hgl := tbl_length p (xs.take (k + 1)) HG.out
          have hxl : (xs.take (k + 1)).length ≤ 20 := Nat.le_trans (List.length_take_le _ _) (by omega)
          have hgb : (xs.take (k + 1)).length * (p + 42) ≤ 20 * 50 := Nat.mul_le_mul hxl (by omega)
          refine does_enter 24 rfl rfl rfl (by go_simp) ((joined_any g 0 5 ps 5 W2 hlen (Nat.lt_of_lt_of_le hglt (Below.size hW2)) (fun i q hi => ?_) (fun q hq => ((hbs q hq).below hW1').below hW2) (by omega) (by rw [hflat]; omega)).mono ?_)
          · rw [Nat.zero_add]
            exact Grew.cell hW2 (hgc i q.val (by rw [List.getElem?_map, hi]; rfl))
          · rintro e w9 ⟨A9, n9, c9, rfl, hown9, hb9⟩
            refine ⟨_, rfl, hb9, A9, n9, c9, rfl, ?_⟩
            rw [hflat] at hown9
            exact ownsRow_base hown9 (Below.size (hgrew.trans hW2))
        intro vs2 W2 hW2' hpost2
        have hW2 := hW1.trans hW2'
        simp only [gjob, List.forall_mem_cons] at hpost2
        obtain ⟨⟨A9, n9, c9, e9, hown9⟩, _⟩ := hpost2
        refine putsT 24 38 rfl (putsN ?_)
        rw [e9]
        simp only [List.set_cons_zero, List.set_cons_succ]
        refine takeT 25 rfl rfl (by kernel_rfl) (by kernel_rfl) (by kernel_rfl) (fun _ _ _ h => h) hW2 rfl (fun W hW => by go_simp; rfl) ?_
        simp only [List.set_cons_zero, List.set_cons_succ]
        refine wpAnyH_done (by kernel_rfl) ?_ _
        have hgr2 : Below w.heap.size w W2 := (hgw.trans (Grew.drew wr)).trans hW2
        clear hown hbel
        go_wp2_with fail
        go_roundw
        case rel => exact ⟨k + 1, n9, A9, c9, by omega, by go_num, rfl, hown9, hgr2⟩
        case measure => simp [intOf]; omega
    · obtain rfl : k = xs.length := by omega
      have HF := Lib.hid (show xs.take xs.length = xs from List.take_length)
      clear hS hG
      go_wp2_with fail
      go_ret
      exact ⟨A', N, c', by simp, by rw [HF.out] at hown; exact hown, hbel⟩
end Go.Proofs.YtpdjolkbjcdimaaDoor
