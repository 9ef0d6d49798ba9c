/- The reference's Written: a program as bytes, printed by program (gen/gen_written.py). -/
import Derived.Test.YtpdjolkbjcdimaaDoorPrg
import Derived.Test.YtpdjolkbjcdimaaDoorBytes
import Derived.Test.YtpdjolkbjcdimaaDoorJoined
import Derived.Test.YtpdjolkbjcdimaaDoorGrow
namespace Go.Proofs.YtpdjolkbjcdimaaDoor
open Go.RowKit

def Prg.sizes (p : Prg) : List UInt8 := bes p.T.l.length 4 ++ (bes p.D.l.length 4 ++ (bes p.B 4 ++ (bes p.S.l.length 4 ++ [])))
def Prg.head (p : Prg) : List UInt8 := bes p.M 4 ++ (p.sizes ++ (bes p.E 4 ++ (bes p.P.l.length 4 ++ (bes p.Q.l.length 4 ++ []))))
def Prg.front (p : Prg) : List UInt8 := if p.M = 35479 then p.head ++ (bes p.E 8 ++ []) else p.head
def Prg.bytes (p : Prg) : List UInt8 := p.front ++ (p.T.l ++ (p.D.l ++ (p.S.l ++ (p.P.l ++ (p.Q.l ++ [])))))
theorem Prg.sizes_length (p : Prg) : p.sizes.length = 16 := by simp [Prg.sizes, bes_length]
theorem Prg.head_length (p : Prg) : p.head.length = 32 := by simp [Prg.head, bes_length, p.sizes_length]
theorem Prg.front_length (p : Prg) : p.front.length ≤ 40 := by
  unfold Prg.front
  split <;> simp [bes_length, p.head_length]

set_option maxRecDepth 100000 in
set_option maxHeartbeats 1600000 in
theorem written_any (p : Prg) (w : World) (hp : p.stand w) (hk : KnownM p.M) (hB : p.B < 4294967296) (hs : p.T.l.length + (p.D.l.length + (p.S.l.length + (p.P.l.length + p.Q.l.length))) ≤ 1000000) :
    Calls Tryd.prog 11 #[.agg p.cells] w fun e w' => ∃ A N c, e = .returned (.slice A N c) ∧ w'.ownsRow w.heap.size 5 1 (.slice A N c) N (bvs p.bytes) ∧ Below w.heap.size w w' := by
  have hbx : Blk (w.alloc (.cells p.cells 34)) w.heap.size 34 p.cells := Blk.new w _ _
  have hg0 : Grew w (w.alloc (.cells p.cells 34)) := Grew.alloc w _
  have hst : p.stand (w.alloc (.cells p.cells 34)) := hp.below hg0
  have qT : IntKind.u64.wrap (p.T.l.length : Int) = (p.T.l.length : Int) := IntWalk.u64_in _ (by omega)
  have qD : IntKind.u64.wrap (p.D.l.length : Int) = (p.D.l.length : Int) := IntWalk.u64_in _ (by omega)
  have qS : IntKind.u64.wrap (p.S.l.length : Int) = (p.S.l.length : Int) := IntWalk.u64_in _ (by omega)
  have qP : IntKind.u64.wrap (p.P.l.length : Int) = (p.P.l.length : Int) := IntWalk.u64_in _ (by omega)
  have qQ : IntKind.u64.wrap (p.Q.l.length : Int) = (p.Q.l.length : Int) := IntWalk.u64_in _ (by omega)
  have qM : IntKind.u64.wrap (p.M : Int) = (p.M : Int) := IntWalk.u64_in _ (by rcases hk with h | h | h <;> omega)
  have qB : IntKind.u64.wrap (p.B : Int) = (p.B : Int) := IntWalk.u64_in _ (by have := hB; omega)
  go_enter Tryd.func11, Tryd.ntmps11
  go_wp2_with fail
  clear hp
  generalize hgw : w.heap.size = g0 at *
  generalize w.alloc (.cells p.cells 34) = w1 at hbx hg0 hst ⊢
  have HG0 := Lib.hid hgw
  clear hgw
  have d0 : w1.cell? ⟨g0, 0, none⟩ = some (.int .u32 (p.M : Nat)) := hbx.cell 0
  have d1 : w1.cell? ⟨g0, 1, none⟩ = some (.int .u32 (p.B : Nat)) := hbx.cell 1
  have d2 : w1.cell? ⟨g0, 2, none⟩ = some (.int .u64 (p.E : Nat)) := hbx.cell 2
  have d3 : w1.cell? ⟨g0, 3, none⟩ = some (.slice p.T.A p.T.l.length p.T.c) := hbx.cell 3
  have d4 : w1.cell? ⟨g0, 4, none⟩ = some (.slice p.D.A p.D.l.length p.D.c) := hbx.cell 4
  have d5 : w1.cell? ⟨g0, 5, none⟩ = some (.slice p.S.A p.S.l.length p.S.c) := hbx.cell 5
  have d6 : w1.cell? ⟨g0, 6, none⟩ = some (.slice p.P.A p.P.l.length p.P.c) := hbx.cell 6
  have d7 : w1.cell? ⟨g0, 7, none⟩ = some (.slice p.Q.A p.Q.l.length p.Q.c) := hbx.cell 7
  clear hbx
  have HLOW := Lib.hid (show g0 ≤ w1.heap.size from by have := Below.size hg0; have := HG0.out; omega)
  refine wp_region_held_drew (S := Grew w1.drew) (by kernel_rfl) (Grew.refl _) (fun hHeld => ?_)
  refine takeT 0 rfl rfl (by kernel_rfl) (by kernel_rfl) (by kernel_rfl) (fun _ _ _ h => h) hHeld rfl (fun W hW => by go_simp; rfl) ?_
  simp only [List.set_cons_zero, List.set_cons_succ]
  refine takeT 1 rfl rfl (by kernel_rfl) (by kernel_rfl) (by kernel_rfl) (fun _ _ _ h => h) hHeld rfl (fun W hW => by have e0 := hW.cell d3; go_simp; rfl) ?_
  simp only [List.set_cons_zero, List.set_cons_succ]
  refine takeT 2 rfl rfl (by kernel_rfl) (by kernel_rfl) (by kernel_rfl) (fun _ _ _ h => h) hHeld rfl (fun W hW => by go_simp; rfl) ?_
  simp only [List.set_cons_zero, List.set_cons_succ]
  refine takeT 3 rfl rfl (by kernel_rfl) (by kernel_rfl) (by kernel_rfl) (fun _ _ _ h => h) hHeld rfl (fun W hW => by go_simp; rfl) ?_
  simp only [List.set_cons_zero, List.set_cons_succ]
  refine takeT 5 rfl rfl (by kernel_rfl) (by kernel_rfl) (by kernel_rfl) (fun _ _ _ h => h) hHeld rfl (fun W hW => by go_simp; rfl) ?_
  simp only [List.set_cons_zero, List.set_cons_succ]
  refine takeT 6 rfl rfl (by kernel_rfl) (by kernel_rfl) (by kernel_rfl) (fun _ _ _ h => h) hHeld rfl (fun W hW => by have e0 := hW.cell d4; go_simp; rfl) ?_
  simp only [List.set_cons_zero, List.set_cons_succ]
  refine takeT 7 rfl rfl (by kernel_rfl) (by kernel_rfl) (by kernel_rfl) (fun _ _ _ h => h) hHeld rfl (fun W hW => by go_simp; rfl) ?_
  simp only [List.set_cons_zero, List.set_cons_succ]
  refine takeT 8 rfl rfl (by kernel_rfl) (by kernel_rfl) (by kernel_rfl) (fun _ _ _ h => h) hHeld rfl (fun W hW => by go_simp; rfl) ?_
  simp only [List.set_cons_zero, List.set_cons_succ]
  refine takeT 10 rfl rfl (by kernel_rfl) (by kernel_rfl) (by kernel_rfl) (fun _ _ _ h => h) hHeld rfl (fun W hW => by go_simp; rfl) ?_
  simp only [List.set_cons_zero, List.set_cons_succ]
  refine takeT 11 rfl rfl (by kernel_rfl) (by kernel_rfl) (by kernel_rfl) (fun _ _ _ h => h) hHeld rfl (fun W hW => by have e0 := hW.cell d1; go_simp; rfl) ?_
  simp only [List.set_cons_zero, List.set_cons_succ]
  refine takeT 12 rfl rfl (by kernel_rfl) (by kernel_rfl) (by kernel_rfl) (fun _ _ _ h => h) hHeld rfl (fun W hW => by go_simp; rfl) ?_
  simp only [List.set_cons_zero, List.set_cons_succ]
  refine takeT 14 rfl rfl (by kernel_rfl) (by kernel_rfl) (by kernel_rfl) (fun _ _ _ h => h) hHeld rfl (fun W hW => by go_simp; rfl) ?_
  simp only [List.set_cons_zero, List.set_cons_succ]
  refine takeT 15 rfl rfl (by kernel_rfl) (by kernel_rfl) (by kernel_rfl) (fun _ _ _ h => h) hHeld rfl (fun W hW => by have e0 := hW.cell d5; go_simp; rfl) ?_
  simp only [List.set_cons_zero, List.set_cons_succ]
  refine takeT 16 rfl rfl (by kernel_rfl) (by kernel_rfl) (by kernel_rfl) (fun _ _ _ h => h) hHeld rfl (fun W hW => by go_simp; rfl) ?_
  simp only [List.set_cons_zero, List.set_cons_succ]
  refine takeT 17 rfl rfl (by kernel_rfl) (by kernel_rfl) (by kernel_rfl) (fun _ _ _ h => h) hHeld rfl (fun W hW => by go_simp; rfl) ?_
  simp only [List.set_cons_zero, List.set_cons_succ]
  refine wpAnyH_grow0 [gjob 4 [] (BsV (bes p.T.l.length 4)), gjob 9 [] (BsV (bes p.D.l.length 4)), gjob 13 [] (BsV (bes p.B 4)), gjob 18 [] (BsV (bes p.S.l.length 4))] 3 5 (by kernel_rfl) rfl (by kernel_rfl) hHeld ?_ ?_ ?_
  · intro q hq
    simp only [List.mem_cons, List.not_mem_nil, or_false] at hq
    rcases hq with rfl | rfl | rfl | rfl <;> exact ⟨rfl, rfl, rfl, BsV.stays _⟩
  · intro q hq W hW
    simp only [List.mem_cons, List.not_mem_nil, or_false] at hq
    rcases hq with rfl | rfl | rfl | rfl
    · refine does_enter 4 rfl rfl rfl (by go_simp) ((bytes_any p.T.l.length 4 W (by omega)).mono ?_)
      rintro e w1 ⟨A1, c1, rfl, hown1, hb1⟩
      obtain ⟨h1, h2, _⟩ := Bs.of_own hown1
      exact ⟨_, rfl, hb1, A1, c1, by rw [bes_length], h1⟩
    · refine does_enter 9 rfl rfl rfl (by go_simp) ((bytes_any p.D.l.length 4 W (by omega)).mono ?_)
      rintro e w1 ⟨A1, c1, rfl, hown1, hb1⟩
      obtain ⟨h1, h2, _⟩ := Bs.of_own hown1
      exact ⟨_, rfl, hb1, A1, c1, by rw [bes_length], h1⟩
    · refine does_enter 13 rfl rfl rfl (by go_simp) ((bytes_any p.B 4 W (by omega)).mono ?_)
      rintro e w1 ⟨A1, c1, rfl, hown1, hb1⟩
      obtain ⟨h1, h2, _⟩ := Bs.of_own hown1
      exact ⟨_, rfl, hb1, A1, c1, by rw [bes_length], h1⟩
    · refine does_enter 18 rfl rfl rfl (by go_simp) ((bytes_any p.S.l.length 4 W (by omega)).mono ?_)
      rintro e w1 ⟨A1, c1, rfl, hown1, hb1⟩
      obtain ⟨h1, h2, _⟩ := Bs.of_own hown1
      exact ⟨_, rfl, hb1, A1, c1, by rw [bes_length], h1⟩
  intro vs W hW hpost
  simp only [gjob, List.forall_mem_cons] at hpost
  obtain ⟨⟨A4, c4, e4, hb4⟩, ⟨A9, c9, e9, hb9⟩, ⟨A13, c13, e13, hb13⟩, ⟨A18, c18, e18, hb18⟩, _⟩ := hpost
  replace e4 : vs 4 = .slice A4 4 c4 := by rw [e4, bes_length]
  replace e9 : vs 9 = .slice A9 4 c9 := by rw [e9, bes_length]
  replace e13 : vs 13 = .slice A13 4 c13 := by rw [e13, bes_length]
  replace e18 : vs 18 = .slice A18 4 c18 := by rw [e18, bes_length]
  refine putsT 4 9 rfl (putsT 9 14 rfl (putsT 13 18 rfl (putsT 18 23 rfl (putsN ?_))))
  rw [e4, e9, e13, e18]
  simp only [List.set_cons_zero, List.set_cons_succ]
  have hgW : Grew w1 W := (Grew.drew w1).trans hW
  generalize hps : ([⟨A4, bes p.T.l.length 4, c4⟩, ⟨A9, bes p.D.l.length 4, c9⟩, ⟨A13, bes p.B 4, c13⟩, ⟨A18, bes p.S.l.length 4, c18⟩] : List Piece) = ps
  have hvals : ps.map Piece.val = [.slice A4 4 c4, .slice A9 4 c9, .slice A13 4 c13, .slice A18 4 c18] := by rw [← hps]; simp only [List.map_cons, List.map_nil, Piece.val, bes_length]
  have hflat : flat ps = p.sizes := by rw [← hps]; rfl
  have hbs : ∀ q ∈ ps, Bs W q.A q.l := by
    rw [← hps]
    simp only [List.forall_mem_cons, List.not_mem_nil, false_implies, implies_true, and_true]
    exact ⟨hb4, hb9, hb13, hb18⟩
  clear hps
  refine wpAnyH_grow0 [gjob 19 [] (RowV (ps.map Piece.val))] 2 5 (by kernel_rfl) rfl (by kernel_rfl) hW ?_ ?_ ?_
  · intro q hq
    simp only [List.mem_cons, List.not_mem_nil, or_false] at hq
    subst hq
    exact ⟨rfl, rfl, rfl, RowV.stays _⟩
  · intro q hq W1 hW1
    simp only [List.mem_cons, List.not_mem_nil, or_false] at hq
    subst hq
    exact does_value 19 rfl rfl rfl (by go_simp; exact ⟨rfl, rfl⟩) (Grew.alloc _ _) (by rw [hvals]; exact RowV.new _ _ _ rfl)
  intro vs1 W1 hW1' hpost1
  have hW1 := hW.trans hW1'
  simp only [gjob, List.forall_mem_cons] at hpost1
  obtain ⟨⟨g, eg, hglt, hgc⟩, _⟩ := hpost1
  have hlen : ps.length = 4 := by have := congrArg List.length hvals; simpa using this
  replace eg : vs1 19 = .slice (some ⟨g, 0, none⟩) 4 4 := by rw [eg, List.length_map, hlen]
  refine putsT 19 24 rfl (putsN ?_)
  rw [eg]
  simp only [List.set_cons_zero, List.set_cons_succ]
  have hgrew : Grew w1 W1 := (Grew.drew w1).trans hW1
  have hlow := HLOW.out
  refine wpAnyH_grow0 [gjob 20 [] (OwnV g0 5 (bvs (p.sizes)))] 1 5 (by kernel_rfl) rfl (by kernel_rfl) hW1 ?_ ?_ ?_
  · intro q hq
    simp only [List.mem_cons, List.not_mem_nil, or_false] at hq
    subst hq
    exact ⟨rfl, rfl, rfl, OwnV.stays _ _ _⟩
  · intro q hq W2 hW2
    simp only [List.mem_cons, List.not_mem_nil, or_false] at hq
    subst hq
    refine does_enter 20 rfl rfl rfl (by go_simp) ((joined_any g 0 4 ps 4 W2 hlen (Nat.lt_of_lt_of_le hglt (Below.size hW2)) (fun i q hi => ?_) (fun q hq => ((hbs q hq).below hW1').below hW2) (by omega) (by rw [hflat]; have h1 := p.sizes_length; have h2 := p.head_length; omega)).mono ?_)
    · rw [Nat.zero_add]
      exact Grew.cell hW2 (hgc i q.val (by rw [List.getElem?_map, hi]; rfl))
    · rintro e w9 ⟨A9, n9, c9, rfl, hown9, hb9⟩
      refine ⟨_, rfl, hb9, A9, n9, c9, rfl, ?_⟩
      rw [hflat] at hown9
      exact ownsRow_base hown9 (by have := Below.size (hgrew.trans hW2); omega)
  intro vs2 X2 hXq hpost2
  have hX2 := hW1.trans hXq
  simp only [gjob, List.forall_mem_cons] at hpost2
  obtain ⟨⟨J2, N2, C2, e9, hown9⟩, _⟩ := hpost2
  refine putsT 20 25 rfl (putsN ?_)
  rw [e9]
  simp only [List.set_cons_zero, List.set_cons_succ]
  refine takeT 21 rfl rfl (by kernel_rfl) (by kernel_rfl) (by kernel_rfl) (fun _ _ _ h => h) hX2 rfl (fun W hW => by go_simp; rfl) ?_
  simp only [List.set_cons_zero, List.set_cons_succ]
  refine wpAnyH_done (by kernel_rfl) ?_ _
  have hgr2 : Grew w1 X2 := (Grew.drew w1).trans hX2
  have hsz2 : N2 = (p.sizes).length := by have := hown9.1; rw [bvs_length] at this; omega
  have HOWN2 := Lib.hid hown9
  clear hown9 hbs hvals hflat hgc hglt hHeld hlow
  have hst2 : p.stand X2 := hst.below hgr2
  rw [p.sizes_length] at hsz2
  subst hsz2
  have HLOW := Lib.hid (show g0 ≤ X2.heap.size from by have := Below.size hgr2; have := HLOW.out; omega)
  replace d0 := Grew.cell hgr2 d0
  replace d1 := Grew.cell hgr2 d1
  replace d2 := Grew.cell hgr2 d2
  replace d3 := Grew.cell hgr2 d3
  replace d4 := Grew.cell hgr2 d4
  replace d5 := Grew.cell hgr2 d5
  replace d6 := Grew.cell hgr2 d6
  replace d7 := Grew.cell hgr2 d7
  have hgg2 := hg0.trans hgr2
  clear hg0 hst hgr2
  go_wp2_with fail
  refine wp_region_held_drew (S := Grew X2.drew) (by kernel_rfl) (Grew.refl _) (fun hHeld => ?_)
  refine takeT 0 rfl rfl (by kernel_rfl) (by kernel_rfl) (by kernel_rfl) (fun _ _ _ h => h) hHeld rfl (fun W hW => by go_simp; rfl) ?_
  simp only [List.set_cons_zero, List.set_cons_succ]
  refine takeT 1 rfl rfl (by kernel_rfl) (by kernel_rfl) (by kernel_rfl) (fun _ _ _ h => h) hHeld rfl (fun W hW => by have e0 := hW.cell d0; go_simp; rfl) ?_
  simp only [List.set_cons_zero, List.set_cons_succ]
  refine takeT 2 rfl rfl (by kernel_rfl) (by kernel_rfl) (by kernel_rfl) (fun _ _ _ h => h) hHeld rfl (fun W hW => by go_simp; rfl) ?_
  simp only [List.set_cons_zero, List.set_cons_succ]
  refine takeT 4 rfl rfl (by kernel_rfl) (by kernel_rfl) (by kernel_rfl) (fun _ _ _ h => h) hHeld rfl (fun W hW => by go_simp; rfl) ?_
  simp only [List.set_cons_zero, List.set_cons_succ]
  refine takeT 5 rfl rfl (by kernel_rfl) (by kernel_rfl) (by kernel_rfl) (fun _ _ _ h => h) hHeld rfl (fun W hW => by go_simp; rfl) ?_
  simp only [List.set_cons_zero, List.set_cons_succ]
  refine takeT 6 rfl rfl (by kernel_rfl) (by kernel_rfl) (by kernel_rfl) (fun _ _ _ h => h) hHeld rfl (fun W hW => by have e0 := hW.cell d2; go_simp; rfl) ?_
  simp only [List.set_cons_zero, List.set_cons_succ]
  refine takeT 8 rfl rfl (by kernel_rfl) (by kernel_rfl) (by kernel_rfl) (fun _ _ _ h => h) hHeld rfl (fun W hW => by go_simp; rfl) ?_
  simp only [List.set_cons_zero, List.set_cons_succ]
  refine takeT 9 rfl rfl (by kernel_rfl) (by kernel_rfl) (by kernel_rfl) (fun _ _ _ h => h) hHeld rfl (fun W hW => by have e0 := hW.cell d6; go_simp; rfl) ?_
  simp only [List.set_cons_zero, List.set_cons_succ]
  refine takeT 10 rfl rfl (by kernel_rfl) (by kernel_rfl) (by kernel_rfl) (fun _ _ _ h => h) hHeld rfl (fun W hW => by go_simp; rfl) ?_
  simp only [List.set_cons_zero, List.set_cons_succ]
  refine takeT 11 rfl rfl (by kernel_rfl) (by kernel_rfl) (by kernel_rfl) (fun _ _ _ h => h) hHeld rfl (fun W hW => by go_simp; rfl) ?_
  simp only [List.set_cons_zero, List.set_cons_succ]
  refine takeT 13 rfl rfl (by kernel_rfl) (by kernel_rfl) (by kernel_rfl) (fun _ _ _ h => h) hHeld rfl (fun W hW => by go_simp; rfl) ?_
  simp only [List.set_cons_zero, List.set_cons_succ]
  refine takeT 14 rfl rfl (by kernel_rfl) (by kernel_rfl) (by kernel_rfl) (fun _ _ _ h => h) hHeld rfl (fun W hW => by have e0 := hW.cell d7; go_simp; rfl) ?_
  simp only [List.set_cons_zero, List.set_cons_succ]
  refine takeT 15 rfl rfl (by kernel_rfl) (by kernel_rfl) (by kernel_rfl) (fun _ _ _ h => h) hHeld rfl (fun W hW => by go_simp; rfl) ?_
  simp only [List.set_cons_zero, List.set_cons_succ]
  refine takeT 16 rfl rfl (by kernel_rfl) (by kernel_rfl) (by kernel_rfl) (fun _ _ _ h => h) hHeld rfl (fun W hW => by go_simp; rfl) ?_
  simp only [List.set_cons_zero, List.set_cons_succ]
  refine wpAnyH_grow0 [gjob 3 [] (BsV (bes p.M 4)), gjob 7 [] (BsV (bes p.E 4)), gjob 12 [] (BsV (bes p.P.l.length 4)), gjob 17 [] (BsV (bes p.Q.l.length 4))] 3 5 (by kernel_rfl) rfl (by kernel_rfl) hHeld ?_ ?_ ?_
  · intro q hq
    simp only [List.mem_cons, List.not_mem_nil, or_false] at hq
    rcases hq with rfl | rfl | rfl | rfl <;> exact ⟨rfl, rfl, rfl, BsV.stays _⟩
  · intro q hq W hW
    simp only [List.mem_cons, List.not_mem_nil, or_false] at hq
    rcases hq with rfl | rfl | rfl | rfl
    · refine does_enter 3 rfl rfl rfl (by go_simp) ((bytes_any p.M 4 W (by omega)).mono ?_)
      rintro e w1 ⟨A1, c1, rfl, hown1, hb1⟩
      obtain ⟨h1, h2, _⟩ := Bs.of_own hown1
      exact ⟨_, rfl, hb1, A1, c1, by rw [bes_length], h1⟩
    · refine does_enter 7 rfl rfl rfl (by go_simp) ((bytes_any p.E 4 W (by omega)).mono ?_)
      rintro e w1 ⟨A1, c1, rfl, hown1, hb1⟩
      obtain ⟨h1, h2, _⟩ := Bs.of_own hown1
      exact ⟨_, rfl, hb1, A1, c1, by rw [bes_length], h1⟩
    · refine does_enter 12 rfl rfl rfl (by go_simp) ((bytes_any p.P.l.length 4 W (by omega)).mono ?_)
      rintro e w1 ⟨A1, c1, rfl, hown1, hb1⟩
      obtain ⟨h1, h2, _⟩ := Bs.of_own hown1
      exact ⟨_, rfl, hb1, A1, c1, by rw [bes_length], h1⟩
    · refine does_enter 17 rfl rfl rfl (by go_simp) ((bytes_any p.Q.l.length 4 W (by omega)).mono ?_)
      rintro e w1 ⟨A1, c1, rfl, hown1, hb1⟩
      obtain ⟨h1, h2, _⟩ := Bs.of_own hown1
      exact ⟨_, rfl, hb1, A1, c1, by rw [bes_length], h1⟩
  intro vs W hW hpost
  simp only [gjob, List.forall_mem_cons] at hpost
  obtain ⟨⟨A3, c3, e3, hb3⟩, ⟨A7, c7, e7, hb7⟩, ⟨A12, c12, e12, hb12⟩, ⟨A17, c17, e17, hb17⟩, _⟩ := hpost
  replace e3 : vs 3 = .slice A3 4 c3 := by rw [e3, bes_length]
  replace e7 : vs 7 = .slice A7 4 c7 := by rw [e7, bes_length]
  replace e12 : vs 12 = .slice A12 4 c12 := by rw [e12, bes_length]
  replace e17 : vs 17 = .slice A17 4 c17 := by rw [e17, bes_length]
  refine putsT 3 29 rfl (putsT 7 33 rfl (putsT 12 38 rfl (putsT 17 43 rfl (putsN ?_))))
  rw [e3, e7, e12, e17]
  simp only [List.set_cons_zero, List.set_cons_succ]
  have hgW : Grew X2 W := (Grew.drew X2).trans hW
  have hb0 : Bs W J2 p.sizes := (Bs.of_own HOWN2.out).1.below hgW
  generalize hps : ([⟨A3, bes p.M 4, c3⟩, ⟨J2, p.sizes, C2⟩, ⟨A7, bes p.E 4, c7⟩, ⟨A12, bes p.P.l.length 4, c12⟩, ⟨A17, bes p.Q.l.length 4, c17⟩] : List Piece) = ps
  have hvals : ps.map Piece.val = [.slice A3 4 c3, .slice J2 16 C2, .slice A7 4 c7, .slice A12 4 c12, .slice A17 4 c17] := by rw [← hps]; simp only [List.map_cons, List.map_nil, Piece.val, bes_length, p.sizes_length]
  have hflat : flat ps = p.head := by rw [← hps]; rfl
  have hbs : ∀ q ∈ ps, Bs W q.A q.l := by
    rw [← hps]
    simp only [List.forall_mem_cons, List.not_mem_nil, false_implies, implies_true, and_true]
    exact ⟨hb3, hb0, hb7, hb12, hb17⟩
  clear hps
  refine wpAnyH_grow0 [gjob 18 [] (RowV (ps.map Piece.val))] 2 5 (by kernel_rfl) rfl (by kernel_rfl) hW ?_ ?_ ?_
  · intro q hq
    simp only [List.mem_cons, List.not_mem_nil, or_false] at hq
    subst hq
    exact ⟨rfl, rfl, rfl, RowV.stays _⟩
  · intro q hq W1 hW1
    simp only [List.mem_cons, List.not_mem_nil, or_false] at hq
    subst hq
    exact does_value 18 rfl rfl rfl (by go_simp; exact ⟨rfl, rfl⟩) (Grew.alloc _ _) (by rw [hvals]; exact RowV.new _ _ _ rfl)
  intro vs1 W1 hW1' hpost1
  have hW1 := hW.trans hW1'
  simp only [gjob, List.forall_mem_cons] at hpost1
  obtain ⟨⟨g, eg, hglt, hgc⟩, _⟩ := hpost1
  have hlen : ps.length = 5 := by have := congrArg List.length hvals; simpa using this
  replace eg : vs1 18 = .slice (some ⟨g, 0, none⟩) 5 5 := by rw [eg, List.length_map, hlen]
  refine putsT 18 44 rfl (putsN ?_)
  rw [eg]
  simp only [List.set_cons_zero, List.set_cons_succ]
  have hgrew : Grew X2 W1 := (Grew.drew X2).trans hW1
  have hlow := HLOW.out
  refine wpAnyH_grow0 [gjob 19 [] (OwnV g0 5 (bvs (p.head)))] 1 5 (by kernel_rfl) rfl (by kernel_rfl) hW1 ?_ ?_ ?_
  · intro q hq
    simp only [List.mem_cons, List.not_mem_nil, or_false] at hq
    subst hq
    exact ⟨rfl, rfl, rfl, OwnV.stays _ _ _⟩
  · intro q hq W2 hW2
    simp only [List.mem_cons, List.not_mem_nil, or_false] at hq
    subst hq
    refine does_enter 19 rfl rfl rfl (by go_simp) ((joined_any g 0 5 ps 5 W2 hlen (Nat.lt_of_lt_of_le hglt (Below.size hW2)) (fun i q hi => ?_) (fun q hq => ((hbs q hq).below hW1').below hW2) (by omega) (by rw [hflat]; have h1 := p.sizes_length; have h2 := p.head_length; omega)).mono ?_)
    · rw [Nat.zero_add]
      exact Grew.cell hW2 (hgc i q.val (by rw [List.getElem?_map, hi]; rfl))
    · rintro e w9 ⟨A9, n9, c9, rfl, hown9, hb9⟩
      refine ⟨_, rfl, hb9, A9, n9, c9, rfl, ?_⟩
      rw [hflat] at hown9
      exact ownsRow_base hown9 (by have := Below.size (hgrew.trans hW2); omega)
  intro vs2 X3 hXq hpost2
  have hX3 := hW1.trans hXq
  simp only [gjob, List.forall_mem_cons] at hpost2
  obtain ⟨⟨J3, N3, C3, e9, hown9⟩, _⟩ := hpost2
  refine putsT 19 45 rfl (putsN ?_)
  rw [e9]
  simp only [List.set_cons_zero, List.set_cons_succ]
  refine takeT 20 rfl rfl (by kernel_rfl) (by kernel_rfl) (by kernel_rfl) (fun _ _ _ h => h) hX3 rfl (fun W hW => by go_simp; rfl) ?_
  simp only [List.set_cons_zero, List.set_cons_succ]
  refine wpAnyH_done (by kernel_rfl) ?_ _
  have hgr3 : Grew X2 X3 := (Grew.drew X2).trans hX3
  have hsz3 : N3 = (p.head).length := by have := hown9.1; rw [bvs_length] at this; omega
  have HOWN3 := Lib.hid hown9
  clear hown9 hbs hvals hflat hgc hglt hHeld hlow
  have hst3 : p.stand X3 := hst2.below hgr3
  rw [p.head_length] at hsz3
  subst hsz3
  replace d2 := Grew.cell hgr3 d2
  replace d0 := Grew.cell hgr3 d0
  replace d3 := Grew.cell hgr3 d3
  replace d4 := Grew.cell hgr3 d4
  replace d5 := Grew.cell hgr3 d5
  replace d6 := Grew.cell hgr3 d6
  replace d7 := Grew.cell hgr3 d7
  have hgg3 := hgg2.trans hgr3
  have hle3 : g0 ≤ X3.heap.size := by have := Below.size hgg3; have := HG0.out; omega
  have hbh := (Bs.of_own HOWN3.out).1
  clear hgg2 hst2 hgr3 d1 hX2 hX3 hgrew hW hgW hb0
  go_wp2_with fail
  refine (wide_any p.M X3 hk).mono ?_
  rintro e w4 ⟨rfl, h4⟩
  rw [h4]
  clear h4
  by_cases hw : p.M = 35479
  · have hdec : decide (p.M = 35479) = true := by simpa using hw
    rw [hdec]
    have hfr : p.front = p.head ++ (bes p.E 8 ++ []) := by unfold Prg.front; rw [if_pos hw]
    have hfl : p.front.length = 40 := by rw [hfr]; simp [bes_length, p.head_length]
    go_wp2_with fail
    refine (bytes_any p.E 8 X3 (by omega)).mono ?_
    rintro e w5 ⟨A5, c5, rfl, hown5, hb5⟩
    have hb5' := (Bs.of_own hown5).1
    have hbh5 := hbh.below hb5
    have hst5 := hst3.below hb5
    replace d3 := Grew.cell hb5 d3
    replace d4 := Grew.cell hb5 d4
    replace d5 := Grew.cell hb5 d5
    replace d6 := Grew.cell hb5 d6
    replace d7 := Grew.cell hb5 d7
    clear hown5
    go_wp2_with fail
    generalize hps : ([⟨J3, p.head, C3⟩, ⟨A5, bes p.E 8, c5⟩] : List Piece) = ps
    have hcs : (#[.slice J3 32 C3, .slice A5 8 c5] : Array Value) = (ps.map Piece.val).toArray := by rw [← hps]; simp only [List.map_cons, List.map_nil, Piece.val, bes_length, p.head_length]
    have hflat : flat ps = p.front := by rw [← hps, hfr]; rfl
    have hlen : ps.length = 2 := by rw [← hps]; rfl
    have hbs : ∀ q ∈ ps, Bs w5 q.A q.l := by
      rw [← hps]
      simp only [List.forall_mem_cons, List.not_mem_nil, false_implies, implies_true, and_true]
      exact ⟨hbh5, hb5'⟩
    clear hps
    rw [hcs]
    refine (joined_any w5.heap.size 0 2 ps 2 _ hlen (by simp) (fun i q hi => by
      rw [Nat.zero_add, (Blk.new w5 _ _).cell i, List.getElem?_toArray, List.getElem?_map, hi]; rfl) (fun q hq => (hbs q hq).alloc _) (by omega) (by rw [hflat]; omega)).mono ?_
    rintro e w6 ⟨J6, N6, C6, rfl, hown6, hb6⟩
    rw [hflat] at hown6
    have hg56 := (Grew.alloc w5 (.cells (ps.map Piece.val).toArray 22)).trans hb6
    have hN6 : N6 = 40 := by have := (Bs.of_own hown6).2.1; omega
    subst hN6
    have hbf := (Bs.of_own hown6).1
    have hstf := hst5.below hg56
    have hggf := (hgg3.trans hb5).trans hg56
    replace d3 := Grew.cell hg56 d3
    replace d4 := Grew.cell hg56 d4
    replace d5 := Grew.cell hg56 d5
    replace d6 := Grew.cell hg56 d6
    replace d7 := Grew.cell hg56 d7
    clear hown6 hb6 hcs hflat hlen hbs hg56
    go_wp2_with fail
    generalize hps : ([⟨J6, p.front, C6⟩, ⟨p.T.A, p.T.l, p.T.c⟩, ⟨p.D.A, p.D.l, p.D.c⟩, ⟨p.S.A, p.S.l, p.S.c⟩, ⟨p.P.A, p.P.l, p.P.c⟩, ⟨p.Q.A, p.Q.l, p.Q.c⟩] : List Piece) = ps
    have hcs : (#[.slice J6 40 C6, .slice p.T.A p.T.l.length p.T.c, .slice p.D.A p.D.l.length p.D.c, .slice p.S.A p.S.l.length p.S.c, .slice p.P.A p.P.l.length p.P.c, .slice p.Q.A p.Q.l.length p.Q.c] : Array Value) = (ps.map Piece.val).toArray := by rw [← hps]; simp only [List.map_cons, List.map_nil, Piece.val, hfl]
    have hflat : flat ps = p.bytes := by rw [← hps]; rfl
    have hlen : ps.length = 6 := by rw [← hps]; rfl
    have hbs : ∀ q ∈ ps, Bs w6 q.A q.l := by
      rw [← hps]
      simp only [List.forall_mem_cons, List.not_mem_nil, false_implies, implies_true, and_true]
      exact ⟨hbf, hstf.1, hstf.2.1, hstf.2.2.1, hstf.2.2.2.1, hstf.2.2.2.2⟩
    clear hps
    rw [hcs]
    refine (joined_any w6.heap.size 0 6 ps 6 _ hlen (by simp) (fun i q hi => by
      rw [Nat.zero_add, (Blk.new w6 _ _).cell i, List.getElem?_toArray, List.getElem?_map, hi]; rfl) (fun q hq => (hbs q hq).alloc _) (by omega) (by rw [hflat]; have h1 := p.front_length; unfold Prg.bytes; simp only [List.length_append, List.length_nil]; omega)).mono ?_
    rintro e w9 ⟨A9, n9, c9, rfl, hown9, hb9⟩
    rw [hflat] at hown9
    have hfin := hggf.trans ((Grew.alloc w6 _).trans hb9)
    have hsf : w.heap.size ≤ w6.heap.size := Below.size hggf
    have H9 := Lib.hid (show _ ∧ _ from ⟨hown9, hfin⟩)
    clear hown9 hb9 hfin
    go_wp2_with fail
    go_ret
    exact ⟨A9, n9, c9, by simp, ownsRow_base H9.out.1 (by have := HG0.out; simp; omega), H9.out.2⟩
  · have hdec : decide (p.M = 35479) = false := by simpa using hw
    rw [hdec]
    have hfr : p.front = p.head := by unfold Prg.front; rw [if_neg hw]
    have hfl : p.front.length = 32 := by rw [hfr]; exact p.head_length
    have hbf : Bs X3 J3 p.front := by rw [hfr]; exact hbh
    have hstf := hst3
    have hggf := hgg3
    go_wp2_with fail
    generalize hps : ([⟨J3, p.front, C3⟩, ⟨p.T.A, p.T.l, p.T.c⟩, ⟨p.D.A, p.D.l, p.D.c⟩, ⟨p.S.A, p.S.l, p.S.c⟩, ⟨p.P.A, p.P.l, p.P.c⟩, ⟨p.Q.A, p.Q.l, p.Q.c⟩] : List Piece) = ps
    have hcs : (#[.slice J3 32 C3, .slice p.T.A p.T.l.length p.T.c, .slice p.D.A p.D.l.length p.D.c, .slice p.S.A p.S.l.length p.S.c, .slice p.P.A p.P.l.length p.P.c, .slice p.Q.A p.Q.l.length p.Q.c] : Array Value) = (ps.map Piece.val).toArray := by rw [← hps]; simp only [List.map_cons, List.map_nil, Piece.val, hfl]
    have hflat : flat ps = p.bytes := by rw [← hps]; rfl
    have hlen : ps.length = 6 := by rw [← hps]; rfl
    have hbs : ∀ q ∈ ps, Bs X3 q.A q.l := by
      rw [← hps]
      simp only [List.forall_mem_cons, List.not_mem_nil, false_implies, implies_true, and_true]
      exact ⟨hbf, hstf.1, hstf.2.1, hstf.2.2.1, hstf.2.2.2.1, hstf.2.2.2.2⟩
    clear hps
    rw [hcs]
    refine (joined_any X3.heap.size 0 6 ps 6 _ hlen (by simp) (fun i q hi => by
      rw [Nat.zero_add, (Blk.new X3 _ _).cell i, List.getElem?_toArray, List.getElem?_map, hi]; rfl) (fun q hq => (hbs q hq).alloc _) (by omega) (by rw [hflat]; have h1 := p.front_length; unfold Prg.bytes; simp only [List.length_append, List.length_nil]; omega)).mono ?_
    rintro e w9 ⟨A9, n9, c9, rfl, hown9, hb9⟩
    rw [hflat] at hown9
    have hfin := hggf.trans ((Grew.alloc X3 _).trans hb9)
    have hsf : w.heap.size ≤ X3.heap.size := Below.size hggf
    have H9 := Lib.hid (show _ ∧ _ from ⟨hown9, hfin⟩)
    clear hown9 hb9 hfin
    go_wp2_with fail
    go_ret
    exact ⟨A9, n9, c9, by simp, ownsRow_base H9.out.1 (by have := HG0.out; simp; omega), H9.out.2⟩
end Go.Proofs.YtpdjolkbjcdimaaDoor
