/- plan9obj.ZZWalk over a table that was written: each symbol's value, kind and raw name. -/
import Derived.Test.YtpdjolkbjcdimaaWalkC
import Derived.Test.YtpdjolkbjcdimaaWhole
namespace Go.Proofs.Ytpdjolkbjcdimaa
open Go.RowKit

theorem Wk.keep8 {c0 c1 c2 base k : Nat} {xs : List Sm} {w w' : World} (h : Wk c0 c1 c2 base xs k w) (g8 : Nat) (hg : g8 + 1 = base) (h0 : c0 ≠ g8) (h1 : c1 ≠ g8) (h2 : c2 ≠ g8) (hK : Keeps (fun b => b = g8) w w') : Wk c0 c1 c2 base xs k w' := by
  have hlow : ∀ {e n : Nat} {A : Option Addr} {c : Nat} {ys : List Value}, w.ownsRow base e 1 (.slice A n c) n ys → w'.ownsRow base e 1 (.slice A n c) n ys := fun {e n A c ys} ho => own_keeps ho hK (fun g hgg h => by
    rcases ho.2 with ⟨hv, _⟩ | ⟨g', cap, cur, hv, hb, _⟩
    · rw [hv] at hgg; simp [Value.ownBlock] at hgg
    · rw [hv] at hgg
      have : g' = g := by simpa [Value.ownBlock] using hgg
      omega)
  obtain ⟨A0, k0, b0, o0⟩ := h.v
  obtain ⟨A1, k1, b1, o1⟩ := h.t
  obtain ⟨A2, k2, ps, b2, o2, hl, hp⟩ := h.n
  exact ⟨h.lt0, h.lt1, h.lt2, ⟨A0, k0, b0.keeps hK h0, hlow o0⟩, ⟨A1, k1, b1.keeps hK h1, hlow o1⟩, ⟨A2, k2, ps, b2.keeps hK h2, hlow o2, hl, fun p hpp => ⟨(hp p hpp).1, (hp p hpp).2.keeps hK (fun b o he _ h => by have := (hp p hpp).1 b o he; omega)⟩⟩⟩

/-- What ZZWalk hands back. -/
def Walked (xs : List Sm) (W : World) (e : Ending) (w' : World) : Prop := ∃ (A0 : Option Addr) (k0 : Nat) (A1 : Option Addr) (k1 : Nat) (A2 : Option Addr) (k2 : Nat) (ps : List Piece),
  e = .returned (.tuple #[.slice A0 xs.length k0, .slice A1 xs.length k1, .slice A2 xs.length k2, .nilIface]) ∧ w'.ownsRow W.heap.size 31 1 (.slice A0 xs.length k0) xs.length (vals64 xs) ∧
  w'.ownsRow W.heap.size 5 1 (.slice A1 xs.length k1) xs.length (vals8 xs) ∧ w'.ownsRow W.heap.size 26 1 (.slice A2 xs.length k2) xs.length (ps.map Piece.val) ∧
  ps.map (·.l) = xs.map (·.n.data.toList) ∧ (∀ p ∈ ps, Bs w' p.A p.l) ∧ Below W.heap.size W w'

set_option maxRecDepth 100000 in
set_option maxHeartbeats 1600000 in
theorem zzWalk_any (A : Option Addr) (xs : List Sm) (n c p : Nat) (W : World) (hn : (tbl p xs).length = n) (hb : Bs W A (tbl p xs)) (hc : n ≤ c) (hm : c ≤ maxLen)
    (hA : ∀ b o, A = some ⟨b, o, none⟩ → b < W.heap.size) (hp : p = 4 ∨ p = 8) (hG : ∀ s ∈ xs, s.Good p) (h20 : xs.length ≤ 1000) :
    Calls Try.prog 14 #[.slice A n c, .int .i64 p] W (Walked xs W) := by
  have hmf : ∀ (fn : Fn) (first cap : Array Value) (w : World), (Instr.makeFunc fn first cap).run Try.prog w = .ok (.func fn first cap) w := fun _ _ _ _ => rfl
  go_enter Try.func14, Try.ntmps14
  go_wp2_with fail
  have hB0 : Blk (((W.alloc (.cells #[.slice none 0 0] 25)).alloc (.cells #[.slice none 0 0] 26)).alloc (.cells #[.slice none 0 0] 27)) W.heap.size 25 #[.slice none 0 0] := ((Blk.new W _ _).alloc _).alloc _
  have hB1 : Blk (((W.alloc (.cells #[.slice none 0 0] 25)).alloc (.cells #[.slice none 0 0] 26)).alloc (.cells #[.slice none 0 0] 27)) (W.heap.size + 1) 26 #[.slice none 0 0] := (Blk.at_ _ _ _ (by simp)).alloc _
  have hB2 : Blk (((W.alloc (.cells #[.slice none 0 0] 25)).alloc (.cells #[.slice none 0 0] 26)).alloc (.cells #[.slice none 0 0] 27)) (W.heap.size + 2) 27 #[.slice none 0 0] := Blk.at_ _ _ _ (by simp)
  have hbW := ((hb.alloc (.cells #[.slice none 0 0] 25)).alloc (.cells #[.slice none 0 0] 26)).alloc (.cells #[.slice none 0 0] 27)
  have hgW : Grew W (((W.alloc (.cells #[.slice none 0 0] 25)).alloc (.cells #[.slice none 0 0] 26)).alloc (.cells #[.slice none 0 0] 27)) := ((Grew.alloc W _).trans (Grew.alloc _ _)).trans (Grew.alloc _ _)
  have hsz : (((W.alloc (.cells #[.slice none 0 0] 25)).alloc (.cells #[.slice none 0 0] 26)).alloc (.cells #[.slice none 0 0] 27)).heap.size = W.heap.size + 3 := by simp
  generalize ((W.alloc (.cells #[.slice none 0 0] 25)).alloc (.cells #[.slice none 0 0] 26)).alloc (.cells #[.slice none 0 0] 27) = W1 at *
  have HSZ := Lib.hid hsz
  clear hsz
  refine (walksymtab_any 23 #[.pointer (some ⟨W.heap.size, 0, none⟩), .pointer (some ⟨W.heap.size + 1, 0, none⟩), .pointer (some ⟨W.heap.size + 2, 0, none⟩)]
    (fun b => b = W.heap.size ∨ b = W.heap.size + 1 ∨ b = W.heap.size + 2) (fun k w => Wk W.heap.size (W.heap.size + 1) (W.heap.size + 2) (W.heap.size + 4) xs k w) A xs n c p _ hn hbW hc hm
    (fun b o he => by have := hA b o he; have := HSZ.out; omega) (fun b he => by have := HSZ.out; omega) hp hG (fun _ _ => by go_simp) ?_ (fun k w w' h hK => h.keep8 W1.heap.size (by have := HSZ.out; omega) (by have := HSZ.out; omega) (by have := HSZ.out; omega) (by have := HSZ.out; omega) hK) ?_).mono ?_
  · exact ⟨by omega, by omega, by omega, ⟨none, 0, hB0.alloc _, by simpa [vals64] using World.ownsRow_nil _ _ _ _⟩, ⟨none, 0, hB1.alloc _, by simpa [vals8] using World.ownsRow_nil _ _ _ _⟩, ⟨none, 0, [], hB2.alloc _, World.ownsRow_nil _ _ _ _, by simp, fun p hp => by simp at hp⟩⟩
  · intro k s A' c' w hx hI hl hbs hlt
    have hkl := (List.getElem?_eq_some_iff.1 hx).1
    refine Calls.mono (gather_any W.heap.size (W.heap.size + 1) (W.heap.size + 2) (W.heap.size + 4) k xs s A' c' w hI hx (by omega) (fun b o he => by have := hl b o he; have := HSZ.out; omega) hbs (by have := HSZ.out; omega)) ?_
    rintro e w' ⟨h1, h2, h3⟩
    exact ⟨h1, h2, h3.mono (fun i h => by
      have := HSZ.out
      rcases h with h | h | h | h
      · exact .inl (.inl h)
      · exact .inl (.inr (.inl h))
      · exact .inl (.inr (.inr h))
      · exact .inr (by omega))⟩
  rintro e w2 ⟨rfl, hI, hK2⟩
  have hbel2 : Below W.heap.size W w2 := Below.trans (B := W.heap.size) hgW ⟨hK2.os, hK2.tape, hK2.output, hK2.size, fun b hb => hK2.block b (by have := HSZ.out; omega) (fun h => by
    have := HSZ.out
    have hb' : b < W.heap.size := hb
    have h' : (b = W.heap.size ∨ b = W.heap.size + 1 ∨ b = W.heap.size + 2) ∨ W1.heap.size ≤ b := h
    omega)⟩
  obtain ⟨A0, k0, b0, o0⟩ := hI.v
  obtain ⟨A1, k1, b1, o1⟩ := hI.t
  obtain ⟨A2, k2, ps, b2, o2, hl, hps⟩ := hI.n
  rw [List.take_length] at o0 o1 hl
  clear hB0 hB1 hB2 hbW hb hK2 hgW
  have z0 := b0.cell 0
  have z1 := b1.cell 0
  have z2 := b2.cell 0
  have f0 := b0.frozen 0
  have f1 := b1.frozen 0
  have f2 := b2.frozen 0
  simp only [List.getElem?_toArray, List.getElem?_cons_zero] at z0 z1 z2
  generalize hg0 : W.heap.size = g0 at *
  have HG0 := Lib.hid hg0
  clear hg0
  have HO := Lib.hid (show w2.ownsRow (g0 + 4) 31 1 (.slice A0 xs.length k0) xs.length (vals64 xs) ∧ w2.ownsRow (g0 + 4) 5 1 (.slice A1 xs.length k1) xs.length (vals8 xs) ∧ w2.ownsRow (g0 + 4) 26 1 (.slice A2 xs.length k2) xs.length (ps.map Piece.val) from ⟨o0, o1, o2⟩)
  have HPS := Lib.hid hps
  have HLL := Lib.hid hl
  have HB0 := Lib.hid b0
  have HB1 := Lib.hid b1
  have HB2 := Lib.hid b2
  have HW := Lib.hid hbel2
  clear o0 o1 o2 hps hl hI b0 b1 b2 hbel2 hn hc hm hp hG hA
  go_wp2_with fail
  have hs0 := Blk.set_self (HB0.out.drewN 1) 0 (.slice A0 xs.length k0) rfl
  have hs1 := Blk.set_self (HB1.out.drewN 1) 0 (.slice A1 xs.length k1) rfl
  have hs2 := Blk.set_self (HB2.out.drewN 1) 0 (.slice A2 xs.length k2) rfl
  have HO' := Lib.hid (show (w2.drewN 1).ownsRow (g0 + 4) 31 1 (.slice A0 xs.length k0) xs.length (vals64 xs) ∧ (w2.drewN 1).ownsRow (g0 + 4) 5 1 (.slice A1 xs.length k1) xs.length (vals8 xs) ∧ (w2.drewN 1).ownsRow (g0 + 4) 26 1 (.slice A2 xs.length k2) xs.length (ps.map Piece.val) from HO.out)
  have HPS' := Lib.hid (show ∀ p ∈ ps, Bs (w2.drewN 1) p.A p.l from fun p hp => (HPS.out p hp).2)
  have HW' := Lib.hid (show Below g0 W (w2.drewN 1) from Below.trans HW.out (((Keeps.refl (fun _ => False) w2).drewN 1).below (by have := HW.out.size; have := HG0.out; omega) (fun _ h => h.elim)))
  have z0 : (w2.drewN 1).cell? ⟨g0, 0, none⟩ = some (.slice A0 xs.length k0) := z0
  have z1 : (w2.drewN 1).cell? ⟨g0 + 1, 0, none⟩ = some (.slice A1 xs.length k1) := z1
  have z2 : (w2.drewN 1).cell? ⟨g0 + 2, 0, none⟩ = some (.slice A2 xs.length k2) := z2
  have f0 : (w2.drewN 1).frozen? ⟨g0, 0, none⟩ = false := f0
  have f1 : (w2.drewN 1).frozen? ⟨g0 + 1, 0, none⟩ = false := f1
  have f2 : (w2.drewN 1).frozen? ⟨g0 + 2, 0, none⟩ = false := f2
  clear HB0 HB1 HB2 HO HPS HW
  refine wp_region_held_drew (S := fun w' => w' = w2.drewN 1) (by kernel_rfl) rfl (fun hHeld => ?_)
  rw [hHeld]
  generalize w2.drewN 1 = w3 at *
  refine takeT 0 rfl rfl (by kernel_rfl) (by kernel_rfl) (by kernel_rfl) (fun _ _ _ h => h) rfl rfl (fun W hW => by subst hW; go_simp; rfl) ?_
  simp only [List.set_cons_zero, List.set_cons_succ]
  refine takeT 1 rfl rfl (by kernel_rfl) (by kernel_rfl) (by kernel_rfl) (fun _ _ _ h => h) rfl rfl (fun W hW => by subst hW; go_simp; rfl) ?_
  simp only [List.set_cons_zero, List.set_cons_succ]
  refine takeT 2 rfl rfl (by kernel_rfl) (by kernel_rfl) (by kernel_rfl) (fun _ _ _ h => h) rfl rfl (fun W hW => by subst hW; go_simp; rfl) ?_
  simp only [List.set_cons_zero, List.set_cons_succ]
  refine takeT 3 rfl rfl (by kernel_rfl) (by kernel_rfl) (by kernel_rfl) (fun _ _ _ h => h) rfl rfl (fun W hW => by subst hW; go_simp; rfl) ?_
  simp only [List.set_cons_zero, List.set_cons_succ]
  refine wpAnyH_ready (rs := [4]) (by kernel_rfl) (by simp) (AllReadyH.cons (i := 4) rfl (fun K hK => ?_) AllReadyH.nil)
  go_simp
  try rw [hs0]
  refine hK.out _ _ rfl (fun _ => ?_)
  clear hK K
  refine wpAnyH_ready (rs := [5]) (by kernel_rfl) (by simp) (AllReadyH.cons (i := 5) rfl (fun K hK => ?_) AllReadyH.nil)
  go_simp
  try rw [hs1]
  refine hK.out _ _ rfl (fun _ => ?_)
  clear hK K
  refine wpAnyH_ready (rs := [6]) (by kernel_rfl) (by simp) (AllReadyH.cons (i := 6) rfl (fun K hK => ?_) AllReadyH.nil)
  go_simp
  try rw [hs2]
  refine hK.out _ _ rfl (fun _ => ?_)
  clear hK K
  refine wpAnyH_ready (rs := [7]) (by kernel_rfl) (by simp) (AllReadyH.cons (i := 7) rfl (fun K hK => ?_) AllReadyH.nil)
  go_simp
  refine hK.out _ _ rfl (fun _ => ?_)
  clear hK K
  refine wpAnyH_done (by kernel_rfl) ?_ _
  clear hs0 hs1 hs2
  go_wp2_with fail
  refine bodyPost_ret (v := .tuple #[.slice A0 xs.length k0, .slice A1 xs.length k1, .slice A2 xs.length k2, .nilIface]) ?_ rfl ?_
  · simp [results, Try.f14, go_sem, z0, z1, z2]
  have hg0 := HG0.out
  obtain ⟨o0, o1, o2⟩ := HO'.out
  refine ⟨A0, k0, A1, k1, A2, k2, ps, rfl, ?_, ?_, ?_, HLL.out, HPS'.out, ?_⟩
  · exact hg0 ▸ ownsRow_base o0 (by omega)
  · exact hg0 ▸ ownsRow_base o1 (by omega)
  · exact hg0 ▸ ownsRow_base o2 (by omega)
  · exact hg0 ▸ HW'.out
end Go.Proofs.Ytpdjolkbjcdimaa
