/- The reference's Sections: what is told of a program's sections. -/
import Derived.Test.YtpdjolkbjcdimaaDoorSame5
import Derived.Deep.AppendLies
import Derived.Deep.RegionHeld3
namespace Go.Proofs.YtpdjolkbjcdimaaDoor
open Go.RowKit

theorem info_p9s : (Tryd.prog.info? 79).map (fun i => (i.zero, i.size, i.bytes)) = some (some (.agg #[.string ⟨#[]⟩, .int .u32 0, .int .u32 0, .slice none 0 0]), 4, 48) := by kernel_rfl

/-- What is told of the first k sections. -/
def Prg.told (p : Prg) (k : Nat) : List Sx := (List.range k).map fun j => ⟨secNames[j]?.getD ⟨#[]⟩, p.lens[j]?.getD 0, offAt p.hdr p.lens j, p.pieces[j]?.getD p.T⟩
theorem Prg.told_succ (p : Prg) (k : Nat) : p.told (k + 1) = p.told k ++ [⟨secNames[k]?.getD ⟨#[]⟩, p.lens[k]?.getD 0, offAt p.hdr p.lens k, p.pieces[k]?.getD p.T⟩] := by
  simp [Prg.told, List.range_succ]
theorem Prg.told_length (p : Prg) (k : Nat) : (p.told k).length = k := by simp [Prg.told]

theorem Prg.told_bs {p : Prg} {w : World} (h : p.stand w) : ∀ x ∈ p.told 5, Bs w x.d.A x.d.l := by
  intro x hx
  simp only [Prg.told, List.mem_map, List.mem_range] at hx
  obtain ⟨j, hj, rfl⟩ := hx
  match j, hj with
  | 0, _ => exact h.1
  | 1, _ => exact h.2.1
  | 2, _ => exact h.2.2.1
  | 3, _ => exact h.2.2.2.1
  | 4, _ => exact h.2.2.2.2

set_option maxRecDepth 100000 in
set_option maxHeartbeats 1600000 in
theorem sections_any (p : Prg) (w : World) (hp : p.stand w) (hk : KnownM p.M) (hs : p.T.l.length + (p.D.l.length + (p.S.l.length + (p.P.l.length + p.Q.l.length))) ≤ 900000) :
    Calls Tryd.prog 14 #[.agg p.cells] w fun e w' => ∃ A c, e = .returned (.slice A 5 c) ∧ Sxs w' A (p.told 5) ∧ Below w.heap.size w w' := by
  have hbx : Blk (w.alloc (.cells p.cells 34)) w.heap.size 34 p.cells := Blk.new w _ _
  have hg0 : Grew w (w.alloc (.cells p.cells 34)) := Grew.alloc w _
  have hst : p.stand (w.alloc (.cells p.cells 34)) := hp.below hg0
  have c0 : (w.alloc (.cells p.cells 34)).cell? ⟨w.heap.size, 0, none⟩ = some (.int .u32 (p.M : Nat)) := hbx.cell 0
  go_enter Tryd.func14, Tryd.ntmps14
  go_wp2_with fail
  clear hp c0
  generalize hgw : w.heap.size = g0 at *
  generalize w.alloc (.cells p.cells 34) = w1 at hbx hg0 hst ⊢
  have HG0 := Lib.hid hgw
  clear hgw
  have d3 : w1.cell? ⟨g0, 3, none⟩ = some (.slice p.T.A p.T.l.length p.T.c) := hbx.cell 3
  have d4 : w1.cell? ⟨g0, 4, none⟩ = some (.slice p.D.A p.D.l.length p.D.c) := hbx.cell 4
  have d5 : w1.cell? ⟨g0, 5, none⟩ = some (.slice p.S.A p.S.l.length p.S.c) := hbx.cell 5
  have d6 : w1.cell? ⟨g0, 6, none⟩ = some (.slice p.P.A p.P.l.length p.P.c) := hbx.cell 6
  have d7 : w1.cell? ⟨g0, 7, none⟩ = some (.slice p.Q.A p.Q.l.length p.Q.c) := hbx.cell 7
  have hb0 := hbx.lt
  clear hbx
  refine (wide_any p.M w1 hk).mono ?_
  rintro e w2 ⟨rfl, h2⟩
  rw [h2]
  clear h2
  obtain ⟨i0, hi0, hz0, hz1, hz2⟩ := info_parts info_p9s
  have HI := Lib.hid (show _ ∧ _ ∧ _ ∧ _ from ⟨hi0, hz0, hz1, hz2⟩)
  clear hi0 hz0 hz1 hz2
  have hh : p.hdr = if p.M = 35479 then 40 else 32 := rfl
  by_cases hw : p.M = 35479
  all_goals
    first
      | rw [show decide (p.M = 35479) = true from by simpa using hw]
      | rw [show decide (p.M = 35479) = false from by simpa using hw]
    first
      | rw [if_pos hw] at hh
      | rw [if_neg hw] at hh
    go_wp2_with fail
    have hO3 : (((w1.alloc (.cells #[] 79)).alloc (.cells #[.string ⟨#[116, 101, 120, 116]⟩, .string ⟨#[100, 97, 116, 97]⟩, .string ⟨#[115, 121, 109, 115]⟩, .string ⟨#[115, 112, 115, 122]⟩, .string ⟨#[112, 99, 115, 122]⟩] 9)).alloc (.cells #[.slice p.T.A p.T.l.length p.T.c, .slice p.D.A p.D.l.length p.D.c, .slice p.S.A p.S.l.length p.S.c, .slice p.P.A p.P.l.length p.P.c, .slice p.Q.A p.Q.l.length p.Q.c] 22)).ownsRow w1.heap.size 79 4 (.slice (some ⟨w1.heap.size, 0, none⟩) 0 0) 0 (sxCells (p.told 0)) :=
      ⟨rfl, .inr ⟨w1.heap.size, 0, #[], rfl, Nat.le_refl _, (((Blk.new w1 79 #[]).alloc _).alloc _), Nat.le_refl _, by simp [maxLen], by simp, by simp [sxCells, Prg.told]⟩⟩
    have hN3 : Blk (((w1.alloc (.cells #[] 79)).alloc (.cells #[.string ⟨#[116, 101, 120, 116]⟩, .string ⟨#[100, 97, 116, 97]⟩, .string ⟨#[115, 121, 109, 115]⟩, .string ⟨#[115, 112, 115, 122]⟩, .string ⟨#[112, 99, 115, 122]⟩] 9)).alloc (.cells #[.slice p.T.A p.T.l.length p.T.c, .slice p.D.A p.D.l.length p.D.c, .slice p.S.A p.S.l.length p.S.c, .slice p.P.A p.P.l.length p.P.c, .slice p.Q.A p.Q.l.length p.Q.c] 22)) (w1.heap.size + 1) 9 #[.string ⟨#[116, 101, 120, 116]⟩, .string ⟨#[100, 97, 116, 97]⟩, .string ⟨#[115, 121, 109, 115]⟩, .string ⟨#[115, 112, 115, 122]⟩, .string ⟨#[112, 99, 115, 122]⟩] := (Blk.at_ (w1.alloc (.cells #[] 79)) _ _ (by simp)).alloc _
    have hD3 : Blk (((w1.alloc (.cells #[] 79)).alloc (.cells #[.string ⟨#[116, 101, 120, 116]⟩, .string ⟨#[100, 97, 116, 97]⟩, .string ⟨#[115, 121, 109, 115]⟩, .string ⟨#[115, 112, 115, 122]⟩, .string ⟨#[112, 99, 115, 122]⟩] 9)).alloc (.cells #[.slice p.T.A p.T.l.length p.T.c, .slice p.D.A p.D.l.length p.D.c, .slice p.S.A p.S.l.length p.S.c, .slice p.P.A p.P.l.length p.P.c, .slice p.Q.A p.Q.l.length p.Q.c] 22)) (w1.heap.size + 2) 22 #[.slice p.T.A p.T.l.length p.T.c, .slice p.D.A p.D.l.length p.D.c, .slice p.S.A p.S.l.length p.S.c, .slice p.P.A p.P.l.length p.P.c, .slice p.Q.A p.Q.l.length p.Q.c] := Blk.at_ ((w1.alloc (.cells #[] 79)).alloc (.cells #[.string ⟨#[116, 101, 120, 116]⟩, .string ⟨#[100, 97, 116, 97]⟩, .string ⟨#[115, 121, 109, 115]⟩, .string ⟨#[115, 112, 115, 122]⟩, .string ⟨#[112, 99, 115, 122]⟩] 9)) _ _ (by simp)
    have hG3 : Grew w1 (((w1.alloc (.cells #[] 79)).alloc (.cells #[.string ⟨#[116, 101, 120, 116]⟩, .string ⟨#[100, 97, 116, 97]⟩, .string ⟨#[115, 121, 109, 115]⟩, .string ⟨#[115, 112, 115, 122]⟩, .string ⟨#[112, 99, 115, 122]⟩] 9)).alloc (.cells #[.slice p.T.A p.T.l.length p.T.c, .slice p.D.A p.D.l.length p.D.c, .slice p.S.A p.S.l.length p.S.c, .slice p.P.A p.P.l.length p.P.c, .slice p.Q.A p.Q.l.length p.Q.c] 22)) := ((Grew.alloc w1 _).trans (Grew.alloc _ _)).trans (Grew.alloc _ _)
    generalize ((w1.alloc (.cells #[] 79)).alloc (.cells #[.string ⟨#[116, 101, 120, 116]⟩, .string ⟨#[100, 97, 116, 97]⟩, .string ⟨#[115, 121, 109, 115]⟩, .string ⟨#[115, 112, 115, 122]⟩, .string ⟨#[112, 99, 115, 122]⟩] 9)).alloc (.cells #[.slice p.T.A p.T.l.length p.T.c, .slice p.D.A p.D.l.length p.D.c, .slice p.S.A p.S.l.length p.S.c, .slice p.P.A p.P.l.length p.P.c, .slice p.Q.A p.Q.l.length p.Q.c] 22) = w3 at hO3 hN3 hD3 hG3 ⊢
    generalize hn : w1.heap.size = n at *
    go_loopw [3, 4, 7] (fun at_ out i wr => ∃ (k : Nat) (A : Option Addr) (c : Nat), k ≤ 5 ∧ i = .int .i64 k ∧ at_ = .int .u32 (offAt p.hdr p.lens k : Nat) ∧ out = .slice A k c ∧ wr.ownsRow n 79 4 (.slice A k c) k (sxCells (p.told k)) ∧ Blk wr (n + 1) 9 #[.string ⟨#[116, 101, 120, 116]⟩, .string ⟨#[100, 97, 116, 97]⟩, .string ⟨#[115, 121, 109, 115]⟩, .string ⟨#[115, 112, 115, 122]⟩, .string ⟨#[112, 99, 115, 122]⟩] ∧ Blk wr (n + 2) 22 #[.slice p.T.A p.T.l.length p.T.c, .slice p.D.A p.D.l.length p.D.c, .slice p.S.A p.S.l.length p.S.c, .slice p.P.A p.P.l.length p.P.c, .slice p.Q.A p.Q.l.length p.Q.c] ∧ Grew w1 wr) (fun _ _ i _ => 5 - (intOf i).toNat)
    case atStart => exact ⟨0, _, 0, by omega, rfl, by rw [hh]; rfl, rfl, hO3, hN3, hD3, hG3⟩
    case round =>
      obtain ⟨k, A, c, hk5, rfl, rfl, rfl, hO, hN, hD, hG⟩ := hrel
      have hk3 : (0 : Int) ≤ (k : Int) := by omega
      by_cases hlt : k < 5
      · have hnm : wr.cell? ⟨n + 1, k, none⟩ = some (.string (secNames[k]?.getD ⟨#[]⟩)) := by
          rw [hN.cell]
          match k, hlt with
          | 0, _ => rfl
          | 1, _ => rfl
          | 2, _ => rfl
          | 3, _ => rfl
          | 4, _ => rfl
        have hdt : wr.cell? ⟨n + 2, k, none⟩ = some (.slice (p.pieces[k]?.getD p.T).A (p.pieces[k]?.getD p.T).l.length (p.pieces[k]?.getD p.T).c) := by
          rw [hD.cell]
          match k, hlt with
          | 0, _ => rfl
          | 1, _ => rfl
          | 2, _ => rfl
          | 3, _ => rfl
          | 4, _ => rfl
        have hml : (p.pieces[k]?.getD p.T).l.length = p.lens[k]?.getD 0 := by
          match k, hlt with
          | 0, _ => rfl
          | 1, _ => rfl
          | 2, _ => rfl
          | 3, _ => rfl
          | 4, _ => rfl
        have hsc : offAt p.hdr p.lens (k + 1) = offAt p.hdr p.lens k + (p.pieces[k]?.getD p.T).l.length := by
          rw [hml]
          exact offAt_succ _ _ _ _ (by
            have : k < p.lens.length := hlt
            rw [List.getElem?_eq_getElem this]; rfl)
        have htl := p.told_succ k
        have hle := offAt_le p.hdr p.lens (k + 1)
        have hsum : p.lens.sum = p.T.l.length + (p.D.l.length + (p.S.l.length + (p.P.l.length + (p.Q.l.length + 0)))) := rfl
        rw [← hml] at htl
        generalize p.pieces[k]?.getD p.T = q at hdt hml hsc htl
        generalize secNames[k]?.getD ⟨#[]⟩ = nm at hnm htl
        generalize hofe : offAt p.hdr p.lens k = off at *
        have q1 : IntKind.u32.wrap (q.l.length : Int) = (q.l.length : Int) := IntWalk.u32_in _ (by omega)
        have q2 : IntKind.u32.wrap ((off : Int) + (q.l.length : Int)) = (off : Int) + (q.l.length : Int) := IntWalk.u32_in _ (by omega)
        have HT := Lib.hid htl
        have HSC := Lib.hid hsc
        have HB := Lib.hid (show _ ∧ _ ∧ _ ∧ _ from ⟨hO, hN, hD, hG⟩)
        have q3 : (off : Int) + (q.l.length : Int) ≤ 4294967295 := by omega
        clear htl hsc hle hsum hml hO hN hD hG hO3 hN3 hD3
        have own_ne : ∀ (g t : Nat) (cs : Array Value), Blk wr g t cs → t ≠ 79 → some g ≠ (Value.slice A k c).ownBlock := fun g t cs hb ht he => by
          rcases HB.out.1.2 with ⟨hv, _⟩ | ⟨g', cap, cur, hv, _, hh, _⟩
          · rw [hv] at he; simp [Value.ownBlock] at he
          · rw [hv] at he
            have : g = g' := by simpa [Value.ownBlock] using he
            subst this
            have h1 : wr.heap[g]? = some (.cells cs t (0, 0)) := hb
            rw [h1] at hh
            injection hh with hh
            injection hh with _ hh
            exact ht hh
        have hne1 := own_ne _ _ _ HB.out.2.1 (by decide)
        have hne2 := own_ne _ _ _ HB.out.2.2.1 (by decide)
        have hl1 := HB.out.2.1.lt
        have hl2 := HB.out.2.2.1.lt
        have hbase : n ≤ wr.heap.size := by omega
        clear own_ne
        go_wp2_with fail
        refine wp_region_held_drew (S := fun w' => w'.cell? ⟨n + 1, k, none⟩ = some (.string nm) ∧ w'.cell? ⟨n + 1 + 1, k, none⟩ = some (.slice q.A q.l.length q.c)) (by kernel_rfl) ⟨hnm, hdt⟩ (fun hHeld => ?_)
        refine takeT 0 rfl rfl (by kernel_rfl) (by kernel_rfl) (by kernel_rfl) (fun _ _ _ h => h) hHeld rfl (fun W hW => by obtain ⟨e1, e2⟩ := hW; go_simp; rfl) ?_
        simp only [List.set_cons_zero, List.set_cons_succ]
        refine takeT 1 rfl rfl (by kernel_rfl) (by kernel_rfl) (by kernel_rfl) (fun _ _ _ h => h) hHeld rfl (fun W hW => by obtain ⟨e1, e2⟩ := hW; go_simp; rfl) ?_
        simp only [List.set_cons_zero, List.set_cons_succ]
        refine takeT 2 rfl rfl (by kernel_rfl) (by kernel_rfl) (by kernel_rfl) (fun _ _ _ h => h) hHeld rfl (fun W hW => by obtain ⟨e1, e2⟩ := hW; go_simp; rfl) ?_
        simp only [List.set_cons_zero, List.set_cons_succ]
        refine takeT 3 rfl rfl (by kernel_rfl) (by kernel_rfl) (by kernel_rfl) (fun _ _ _ h => h) hHeld rfl (fun W hW => by obtain ⟨e1, e2⟩ := hW; go_simp; rfl) ?_
        simp only [List.set_cons_zero, List.set_cons_succ]
        refine takeT 4 rfl rfl (by kernel_rfl) (by kernel_rfl) (by kernel_rfl) (fun _ _ _ h => h) hHeld rfl (fun W hW => by obtain ⟨e1, e2⟩ := hW; go_simp; rfl) ?_
        simp only [List.set_cons_zero, List.set_cons_succ]
        refine takeT 5 rfl rfl (by kernel_rfl) (by kernel_rfl) (by kernel_rfl) (fun _ _ _ h => h) hHeld rfl (fun W hW => by obtain ⟨e1, e2⟩ := hW; go_simp; rfl) ?_
        simp only [List.set_cons_zero, List.set_cons_succ]
        refine takeT 6 rfl rfl (by kernel_rfl) (by kernel_rfl) (by kernel_rfl) (fun _ _ _ h => h) hHeld rfl (fun W hW => by obtain ⟨e1, e2⟩ := hW; go_simp; rfl) ?_
        simp only [List.set_cons_zero, List.set_cons_succ]
        refine takeT 7 rfl rfl (by kernel_rfl) (by kernel_rfl) (by kernel_rfl) (fun _ _ _ h => h) hHeld rfl (fun W hW => by obtain ⟨e1, e2⟩ := hW; go_simp; rfl) ?_
        simp only [List.set_cons_zero, List.set_cons_succ]
        refine takeT 8 rfl rfl (by kernel_rfl) (by kernel_rfl) (by kernel_rfl) (fun _ _ _ h => h) hHeld rfl (fun W hW => by obtain ⟨e1, e2⟩ := hW; go_simp; rfl) ?_
        simp only [List.set_cons_zero, List.set_cons_succ]
        refine takeT 9 rfl rfl (by kernel_rfl) (by kernel_rfl) (by kernel_rfl) (fun _ _ _ h => h) hHeld rfl (fun W hW => by obtain ⟨e1, e2⟩ := hW; go_simp; rfl) ?_
        simp only [List.set_cons_zero, List.set_cons_succ]
        refine takeT 10 rfl rfl (by kernel_rfl) (by kernel_rfl) (by kernel_rfl) (fun _ _ _ h => h) hHeld rfl (fun W hW => by obtain ⟨e1, e2⟩ := hW; go_simp; rfl) ?_
        simp only [List.set_cons_zero, List.set_cons_succ]
        refine takeT 11 rfl rfl (by kernel_rfl) (by kernel_rfl) (by kernel_rfl) (fun _ _ _ h => h) hHeld rfl (fun W hW => by obtain ⟨e1, e2⟩ := hW; go_simp; rfl) ?_
        simp only [List.set_cons_zero, List.set_cons_succ]
        refine wpAnyH_ready (rs := [12]) (by kernel_rfl) (by simp) (AllReadyH.cons (i := 12) rfl (fun K hK => ?_) AllReadyH.nil)
        go_simp
        refine hK.out _ _ ⟨(Grew.alloc wr _).cell hnm, (Grew.alloc wr _).cell hdt⟩ (fun _ => ?_)
        clear hK K
        refine wpAnyH_ready (rs := [13]) (by kernel_rfl) (by simp) (AllReadyH.cons (i := 13) rfl (fun K hK => ?_) AllReadyH.nil)
        refine step_append_lies _ (by rfl) _ _ _ (by rfl) n 79 i0 _ 4 48 Tryd.underlying37 HI.out.1 HI.out.2.1 HI.out.2.2.1 HI.out.2.2.2 rfl (by omega) _ k _ (by rfl) (show (wr.alloc _).drew.ownsRow _ _ _ _ _ _ from HB.out.1.alloc _) ⟨wr.heap.size, 0, none⟩ 1 1 [.string nm, .int .u32 (q.l.length : Nat), .int .u32 (off : Nat), .slice q.A q.l.length q.c] (by rfl) (by rfl) (World.news_of_block (cs := #[.string nm, .int .u32 (q.l.length : Nat), .int .u32 (off : Nat), .slice q.A q.l.length q.c]) (t := 79) (fr := (0, 0)) (heap_alloc_new wr _)) (by simp [Value.oneCell']) (by omega) (by simp only [maxLen]; omega) (by omega) (by show n ≤ (wr.alloc _).heap.size; simp; omega) _ rfl ?_
        intro gg cap w5 hown5 hgrow _ _
        have hN5 : Blk w5 (n + 1) 9 _ := (hgrow.block (n + 1) (by show _ < (wr.alloc _).heap.size; simp; omega) hne1).trans (HB.out.2.1.alloc _)
        have hD5 : Blk w5 (n + 2) 22 _ := (hgrow.block (n + 2) (by show _ < (wr.alloc _).heap.size; simp; omega) hne2).trans (HB.out.2.2.1.alloc _)
        have hs5 : w5.cell? ⟨n + 1, k, none⟩ = some (.string nm) ∧ w5.cell? ⟨n + 1 + 1, k, none⟩ = some (.slice q.A q.l.length q.c) :=
          ⟨(hgrow.cell_far _ (by show n + 1 < (wr.alloc _).heap.size; simp; omega) hne1).trans ((Grew.alloc wr _).cell hnm), (hgrow.cell_far _ (by show n + 2 < (wr.alloc _).heap.size; simp; omega) hne2).trans ((Grew.alloc wr _).cell hdt)⟩
        have hG5 : Below n w1 w5 := by
          refine Below.trans (show Below n w1 (wr.alloc (Obj.cells #[.string nm, .int .u32 (q.l.length : Nat), .int .u32 (off : Nat), .slice q.A q.l.length q.c] 79)).drew from ?_) (Below.grown (Below.refl _ _) hgrow (by show n ≤ (wr.alloc _).heap.size; simp; omega) (own_base HB.out.1))
          have h1 := (HB.out.2.2.2.trans (Grew.alloc wr (Obj.cells #[.string nm, .int .u32 (q.l.length : Nat), .int .u32 (off : Nat), .slice q.A q.l.length q.c] 79))).trans (Grew.drew _)
          unfold Grew at h1
          rw [hn] at h1
          exact h1
        have H5 := Lib.hid (show _ ∧ _ ∧ _ ∧ _ from ⟨hown5, hN5, hD5, hG5⟩)
        clear hN5 hD5 hG5 hown5
        refine hK.out _ _ hs5 (fun _ => ?_)
        clear hK K
        refine takeT 14 rfl rfl (by kernel_rfl) (by kernel_rfl) (by kernel_rfl) (fun _ _ _ h => h) hs5 rfl (fun W hW => by go_simp; rfl) ?_
        simp only [List.set_cons_zero, List.set_cons_succ]
        refine wpAnyH_done (by kernel_rfl) ?_ _
        go_wp2_with fail
        exact ⟨⟨k + 1, some ⟨gg, 0, none⟩, cap, by omega, by go_num, by rw [HSC.out]; simp, rfl, by rw [HT.out, sxCells_snoc]; exact H5.out.1, H5.out.2.1, H5.out.2.2.1, by unfold Grew; rw [hn]; exact H5.out.2.2.2⟩, by simp [intOf]; omega⟩
      · obtain rfl : k = 5 := by omega
        have HB := Lib.hid (show _ ∧ _ from ⟨hO, hG⟩)
        clear hO hN hD hG hO3 hN3 hD3
        go_wp2_with fail
        go_ret
        exact ⟨A, c, by simp, (Sxs.of_own HB.out.1 (Prg.told_bs (hst.below HB.out.2))).1, hg0.trans HB.out.2⟩
end Go.Proofs.YtpdjolkbjcdimaaDoor
