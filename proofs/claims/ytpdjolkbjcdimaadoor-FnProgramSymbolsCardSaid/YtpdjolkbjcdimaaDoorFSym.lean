/- (*File).Section of the name syms, and (*File).Symbols, over a written program. -/
import Derived.Test.YtpdjolkbjcdimaaDoorSecData0
import Derived.Test.YtpdjolkbjcdimaaDoorHeads
import Derived.Test.YtpdjolkbjcdimaaDoorNewt
namespace Go.Proofs.YtpdjolkbjcdimaaDoor
open Go.RowKit

set_option maxRecDepth 100000 in
set_option maxHeartbeats 800000 in
theorem section_syms (gf ga gr lo h : Nat) (a b c d e f : Value) (m0 m1 m2 m3 m4 : Nat) (w : World) (hF : Blk w gf 67 #[a, b, c, d, e, f, .slice (some ⟨ga, 0, none⟩) 5 5])
    (hS : Sects gr lo ga h [m0, m1, m2, m3, m4] 5 w) :
    Calls Tryd.prog 40 #[.pointer (some ⟨gf, 0, none⟩), .string ⟨#[115, 121, 109, 115]⟩] w fun e w' =>
      ∃ gx, e = .returned (.pointer (some ⟨gx, 0, none⟩)) ∧ SecAt gr lo w ⟨#[115, 121, 109, 115]⟩ m2 (offAt h [m0, m1, m2, m3, m4] 2) gx ∧ w' = w := by
  obtain ⟨gxs, hgl, hga, hsec⟩ := hS
  match gxs, hgl with
  | [x0, x1, x2, x3, x4], _ =>
  obtain ⟨_, gs0, _, hx0, _⟩ := hsec 0 x0 _ _ rfl rfl rfl
  obtain ⟨_, gs1, _, hx1, _⟩ := hsec 1 x1 _ _ rfl rfl rfl
  have hx2' := hsec 2 x2 _ _ rfl rfl rfl
  obtain ⟨_, gs2, _, hx2, _⟩ := id hx2'
  have f6 := hF.cell 6
  have p0 : w.cell? ⟨ga, 0, none⟩ = some (.pointer (some ⟨x0, 0, none⟩)) := hga.cell 0
  have p1 : w.cell? ⟨ga, 1, none⟩ = some (.pointer (some ⟨x1, 0, none⟩)) := hga.cell 1
  have p2 : w.cell? ⟨ga, 2, none⟩ = some (.pointer (some ⟨x2, 0, none⟩)) := hga.cell 2
  have n0 := hx0.cell 0
  have n1 := hx1.cell 0
  have n2 := hx2.cell 0
  simp only [secCells, List.getElem?_toArray, List.getElem?_cons_zero, List.getElem?_cons_succ] at f6 n0 n1 n2
  have HX := Lib.hid hx2'
  clear hF hga hsec hx0 hx1 hx2 hx2'
  go_enter Tryd.func40, Tryd.ntmps40
  go_wp2_with fail
  refine wp_loop_rounds 3 ?_
  rw [rounds_succ]
  go_wp2_with fail
  rw [rounds_succ]
  go_wp2_with fail
  rw [rounds_succ]
  go_wp2_with fail
  go_ret
  exact ⟨x2, by simp, HX.out, rfl⟩

set_option maxRecDepth 100000 in
set_option maxHeartbeats 800000 in
theorem fileSymbols_any (gf ga gr lo h cp n ptr : Nat) (a b c d e x y : Value) (m0 m1 m2 m3 m4 : Nat) (xs : List Sm) (A : Option Addr) (l : List UInt8) (w : World) (hE : Eofs w)
    (hF : Blk w gf 67 #[a, b, c, .int .i64 (ptr : Nat), d, e, .slice (some ⟨ga, 0, none⟩) 5 5]) (hS : Sects gr lo ga h [m0, m1, m2, m3, m4] 5 w)
    (hR : Blk w gr 112 #[.slice A n cp, x, y]) (hb : Bs w A l) (hln : l.length = n) (hc : n ≤ cp) (hl : n ≤ 1000000) (hd : (l.drop (offAt h [m0, m1, m2, m3, m4] 2)).take m2 = tbl ptr xs) (hm : (tbl ptr xs).length = m2)
    (hoff : offAt h [m0, m1, m2, m3, m4] 2 + m2 ≤ n) (hp : ptr = 4 ∨ ptr = 8) (hG : ∀ s ∈ xs, s.Good ptr) (h20 : xs.length ≤ 1000) :
    Calls Tryd.prog 33 #[.pointer (some ⟨gf, 0, none⟩)] w (Tabled xs w) := by
  subst hln
  have HS := Lib.hid (section_syms gf ga gr lo h a b c (.int .i64 (ptr : Nat)) d e m0 m1 m2 m3 m4 w hF hS)
  have HH := Lib.hid (show _ ∧ _ ∧ _ ∧ _ ∧ _ from ⟨hE, hF, hR, hb, hd⟩)
  have HG := Lib.hid (show _ ∧ _ ∧ _ from ⟨hp, hG, h20⟩)
  have HM := Lib.hid (show _ ∧ _ ∧ _ ∧ _ from ⟨hm, hoff, hc, hl⟩)
  clear hE hF hS hR hb hd hp hG h20 hm hoff hc hl
  go_enter Tryd.func33, Tryd.ntmps33
  go_wp2_with fail
  refine HS.out.mono ?_
  rintro e' w1 ⟨gx, rfl, hx, h1⟩
  rw [h1]
  clear h1 HS
  obtain ⟨_, gs, _, hX, hSR⟩ := hx
  have HX := Lib.hid (show _ ∧ _ from ⟨hX, hSR⟩)
  clear hX hSR
  go_wp2_with fail
  refine (secData_at _ gx gs gr (offAt h [m0, m1, m2, m3, m4] 2) (offAt h [m0, m1, m2, m3, m4] 2) m2 cp (m2 : Nat) x y A l w HH.out.1 HX.out.1 HX.out.2 HH.out.2.2.1 HH.out.2.2.2.1 HM.out.2.1 (by have := HM.out; omega) HM.out.2.2.1 (by have := HM.out; omega)).mono ?_
  rintro e' w2 ⟨gd, hgd, hgl, rfl, hbd, hbel2⟩
  rw [HH.out.2.2.2.2] at hbd
  have f3 := (HH.out.2.1.below hbel2 HH.out.2.1.lt).cell 3
  simp only [List.getElem?_toArray, List.getElem?_cons_zero, List.getElem?_cons_succ] at f3
  have HB := Lib.hid (show _ ∧ _ ∧ _ ∧ _ from ⟨hgd, hgl, hbd, hbel2⟩)
  clear hgd hgl hbd hbel2
  go_wp2_with fail
  refine (newTable_any (some ⟨gd, 0, none⟩) xs m2 m2 ptr w2 HM.out.1 HB.out.2.2.1 (Nat.le_refl _) (by have := HM.out; unfold maxLen; omega) (fun b o h => by
    injection h with h
    injection h with h
    have := HB.out.2.1
    omega) HG.out.1 HG.out.2.1 HG.out.2.2).mono ?_
  rintro e' w3 ⟨ct, gs', rfl, h1, h2, h3⟩
  have H1 := Lib.hid h1
  have hsz2 := HB.out.2.2.2.size
  clear h1
  go_wp2_with fail
  go_ret2
  exact ⟨ct, gs', by simp, H1.out, by omega, HB.out.2.2.2.trans (h3.mono hsz2)⟩
end Go.Proofs.YtpdjolkbjcdimaaDoor
