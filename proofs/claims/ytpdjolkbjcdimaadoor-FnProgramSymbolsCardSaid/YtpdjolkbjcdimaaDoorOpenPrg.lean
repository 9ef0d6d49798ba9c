/- A parameter that is a Plan 9 program by value, opened: its numbers fit, its pieces stand. -/
import Derived.Test.YtpdjolkbjcdimaaDoorPrg
import Derived.Test.YtpdjolkbjcdimaaDoorOpen
import Derived.ChangeOld
import Derived.Deep.Slices
import Derived.Deep.Fields
import Derived.ChangeSame
namespace Go.Proofs.YtpdjolkbjcdimaaDoor
open Go.ChangeShapes Go.WideShapes Go.ChangeAt Go.RowKit Go.Deep

theorem prog_row : ∃ f0 f1 f2 f3 f4 f5 f6 f7 : Field, Tryd.prog.underlying 34 = some (.struct #[f0, f1, f2, f3, f4, f5, f6, f7]) ∧ f0.type = 23 ∧ f1.type = 23 ∧ f2.type = 31 ∧ f3.type = 22 ∧ f4.type = 22 ∧ f5.type = 22 ∧ f6.type = 22 ∧ f7.type = 22 ∧ f0.offset = 0 ∧ f1.offset = 1 ∧ f2.offset = 2 ∧ f3.offset = 3 ∧ f4.offset = 4 ∧ f5.offset = 5 ∧ f6.offset = 6 ∧ f7.offset = 7 :=
  ⟨_, _, _, _, _, _, _, _, Tryd.underlying34, rfl, rfl, rfl, rfl, rfl, rfl, rfl, rfl, rfl, rfl, rfl, rfl, rfl, rfl, rfl, rfl⟩
theorem cellsP_prog : Tryd.prog.cellsOf 34 = 8 := by kernel_rfl
theorem cellsP_u32 : Tryd.prog.cellsOf 23 = 1 := by kernel_rfl
theorem cellsP_u64 : Tryd.prog.cellsOf 31 = 1 := by kernel_rfl
theorem cellsP_bs : Tryd.prog.cellsOf 22 = 1 := by kernel_rfl
theorem cellsP_u8 : Tryd.prog.cellsOf 5 = 1 := by kernel_rfl

/-- One cell that is a slice of bytes, opened. -/
theorem piece_of {H : Type} {enc : TypeId × Value → H} {w : World} {base : Nat} {spare : Nat → Bool} {held : Bool} {n : Nat} {v : Value} {y : DataW H × List MemPlace}
    (hf : DataW.trod enc Tryd.prog w base spare held n 22 [v] = some y) : ∃ q : Piece, v = .slice q.A q.l.length q.c ∧ Bs w q.A q.l := by
  obtain ⟨d, p⟩ := y
  rcases open_ints Tryd.underlying22 Tryd.underlying5 cellsP_u8 hf with ⟨hcs, _⟩ | ⟨x, len, cap, zs, hcs, _, hl, hm, hz, _, hcell, hwz⟩
  · obtain rfl : v = .slice none 0 0 := by simpa using hcs
    exact ⟨⟨none, [], 0⟩, rfl, Bs.nil _ _⟩
  · obtain rfl : v = .slice (some x) len cap := by simpa using hcs
    have hzl : len ≤ zs.length := by
      rw [hz]
      split <;> omega
    have hll : ((zs.take len).map fun n => UInt8.ofNat n.toNat).length = len := by simp; omega
    refine ⟨⟨some x, (zs.take len).map fun n => UInt8.ofNat n.toNat, cap⟩, by simp only [hll], fun hne => ?_⟩
    have h0 : 0 < len := by
      rcases Nat.eq_zero_or_pos len with h0 | h0
      · subst h0; simp at hne
      · exact h0
    obtain ⟨b, off, spot⟩ := x
    have hc0 := hcell 0 (by omega)
    have hspot : spot = none := by simpa [Addr.add] using World.cell?_spot hc0
    subst hspot
    refine ⟨b, off, rfl, World.block_lt_of_cell? w _ (by simpa [Addr.add] using hc0), fun i hi => ?_⟩
    simp only [hll] at hi
    have hci := hcell i (by omega)
    have hadd : (⟨b, off, none⟩ : Addr).add i = ⟨b, off + i, none⟩ := by unfold Addr.add; split <;> simp_all
    rw [hadd] at hci
    rw [hci]
    have hget : zs[i]? = some zs[i] := List.getElem?_eq_getElem (by omega)
    have hmem : zs[i] ∈ zs := List.getElem_mem _
    have hb := byte_of_wf (hwz _ hmem)
    simp only [List.getElem?_map, List.getElem?_take, if_pos hi, hget, Option.map_some, Option.getD_some, List.getD_eq_getElem?_getD]
    congr 2
    rw [UInt8.toNat_ofNat']
    omega

set_option maxRecDepth 100000 in
theorem open_prog {H : Type} {enc : TypeId × Value → H} {w : World} {base : Nat} {spare : Nat → Bool} {held : Bool} {v : Value} {d : DataW H} {p : List MemPlace} {r : Reach} {b0 : Nat}
    (hv : Value.okWide Tryd.prog w r b0 34 v) (h : DataW.Trod enc Tryd.prog w base spare held 34 v d p) :
    ∃ q : Prg, v = .agg q.cells ∧ q.stand w ∧ q.M < 4294967296 ∧ q.B < 4294967296 ∧ q.E < 18446744073709551616 := by
  obtain ⟨f0, f1, f2, f3, f4, f5, f6, f7, hund, t0, t1, t2, t3, t4, t5, t6, t7, o0, o1, o2, o3, o4, o5, o6, o7⟩ := prog_row
  obtain ⟨cs, rfl, hcs⟩ := okWide_struct hund hv
  obtain ⟨fuel, hf⟩ := h
  obtain ⟨ys, n', _, _, _, hyl, hg⟩ := DataW.trod_struct hund hf
  have g0 := hg 0 f0 rfl
  have g1 := hg 1 f1 rfl
  have g2 := hg 2 f2 rfl
  have g3 := hg 3 f3 rfl
  have g4 := hg 4 f4 rfl
  have g5 := hg 5 f5 rfl
  have g6 := hg 6 f6 rfl
  have g7 := hg 7 f7 rfl
  rw [t0, o0, cellsP_u32] at g0
  rw [t1, o1, cellsP_u32] at g1
  rw [t2, o2, cellsP_u64] at g2
  rw [t3, o3, cellsP_bs] at g3
  rw [t4, o4, cellsP_bs] at g4
  rw [t5, o5, cellsP_bs] at g5
  rw [t6, o6, cellsP_bs] at g6
  rw [t7, o7, cellsP_bs] at g7
  rw [cellsP_prog] at hcs
  obtain ⟨ls⟩ := cs
  simp only [Value.cells] at g0 g1 g2 g3 g4 g5 g6 g7
  match ys, hyl, ls, hcs with
  | [y0, y1, y2, y3, y4, y5, y6, y7], _, [v0, v1, v2, v3, v4, v5, v6, v7], _ =>
    obtain ⟨a0, e0, _, w0⟩ := DataW.trod_int Tryd.underlying23 (show DataW.trod enc Tryd.prog w base spare held n' 23 [v0] = some y0 from g0)
    obtain ⟨a1, e1, _, w1⟩ := DataW.trod_int Tryd.underlying23 (show DataW.trod enc Tryd.prog w base spare held n' 23 [v1] = some y1 from g1)
    obtain ⟨a2, e2, _, w2⟩ := DataW.trod_int Tryd.underlying31 (show DataW.trod enc Tryd.prog w base spare held n' 31 [v2] = some y2 from g2)
    obtain ⟨q3, e3, w3⟩ := piece_of (show DataW.trod enc Tryd.prog w base spare held n' 22 [v3] = some y3 from g3)
    obtain ⟨q4, e4, w4⟩ := piece_of (show DataW.trod enc Tryd.prog w base spare held n' 22 [v4] = some y4 from g4)
    obtain ⟨q5, e5, w5⟩ := piece_of (show DataW.trod enc Tryd.prog w base spare held n' 22 [v5] = some y5 from g5)
    obtain ⟨q6, e6, w6⟩ := piece_of (show DataW.trod enc Tryd.prog w base spare held n' 22 [v6] = some y6 from g6)
    obtain ⟨q7, e7, w7⟩ := piece_of (show DataW.trod enc Tryd.prog w base spare held n' 22 [v7] = some y7 from g7)
    have h0 : 0 ≤ a0 ∧ a0 ≤ 4294967295 := by simpa [Lit.wf, IntKind.min, IntKind.max, IntKind.signed, IntKind.bits] using w0
    obtain ⟨n0, rfl⟩ := Int.eq_ofNat_of_zero_le h0.1
    have h1 : 0 ≤ a1 ∧ a1 ≤ 4294967295 := by simpa [Lit.wf, IntKind.min, IntKind.max, IntKind.signed, IntKind.bits] using w1
    obtain ⟨n1, rfl⟩ := Int.eq_ofNat_of_zero_le h1.1
    have h2 : 0 ≤ a2 ∧ a2 ≤ 18446744073709551615 := by simpa [Lit.wf, IntKind.min, IntKind.max, IntKind.signed, IntKind.bits] using w2
    obtain ⟨n2, rfl⟩ := Int.eq_ofNat_of_zero_le h2.1
    simp only [List.cons.injEq, and_true] at e0 e1 e2
    subst e0 e1 e2 e3 e4 e5 e6 e7
    exact ⟨⟨n0, n1, n2, q3, q4, q5, q6, q7⟩, rfl, ⟨w3, w4, w5, w6, w7⟩, by simp only; omega, by simp only; omega, by simp only; omega⟩
end Go.Proofs.YtpdjolkbjcdimaaDoor
