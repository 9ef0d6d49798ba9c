/- A parameter that is a list of symbols, opened: its symbols stand at its address. -/
import Derived.Test.YtpdjolkbjcdimaaSyms
import Derived.ChangeOld
import Derived.Deep.Slices
import Derived.Deep.Fields
import Derived.ChangeSame
namespace Go.Proofs.Ytpdjolkbjcdimaa
open Go.ChangeShapes Go.WideShapes Go.ChangeAt Go.RowKit Go.Deep

theorem sym_row : ∃ f0 f1 f2 : Field, Try.prog.underlying 33 = some (.struct #[f0, f1, f2]) ∧ f0.type = 31 ∧ f1.type = 3 ∧ f2.type = 9 ∧ f0.offset = 0 ∧ f1.offset = 1 ∧ f2.offset = 2 :=
  ⟨_, _, _, Try.underlying33, rfl, rfl, rfl, rfl, rfl, rfl⟩
theorem cells_sym : Try.prog.cellsOf 33 = 3 := by kernel_rfl
theorem cells_u64 : Try.prog.cellsOf 31 = 1 := by kernel_rfl
theorem cells_i64 : Try.prog.cellsOf 3 = 1 := by kernel_rfl
theorem cells_str : Try.prog.cellsOf 9 = 1 := by kernel_rfl

/-- What is known of each symbol of a list that came in. -/
def SymsFit (xs : List Sm) : Prop := ∀ s ∈ xs, s.n.size ≤ maxLen ∧ s.v < 18446744073709551616

theorem pick_syms {w : World} {a : Addr} : ∀ (len : Nat), (∀ i, i < len → ∃ s : Sm, w.cell? (a.add (i * 3)) = some (.int .u64 s.v) ∧ w.cell? (a.add (i * 3 + 1)) = some (.int .i64 s.t) ∧ w.cell? (a.add (i * 3 + 2)) = some (.string s.n) ∧ s.n.size ≤ maxLen ∧ s.v < 18446744073709551616) →
    ∃ xs : List Sm, xs.length = len ∧ SymsFit xs ∧ ∀ (i : Nat) (s : Sm), xs[i]? = some s → w.cell? (a.add (i * 3)) = some (.int .u64 s.v) ∧ w.cell? (a.add (i * 3 + 1)) = some (.int .i64 s.t) ∧ w.cell? (a.add (i * 3 + 2)) = some (.string s.n)
  | 0, _ => ⟨[], rfl, fun s hs => by simp at hs, fun i s h => by simp at h⟩
  | len + 1, h => by
    obtain ⟨xs, hl, hf, hc⟩ := pick_syms len (fun i hi => h i (by omega))
    obtain ⟨s, h0, h1, h2, h3, h4⟩ := h len (by omega)
    refine ⟨xs ++ [s], by simp [hl], fun x hx => ?_, fun i x hx => ?_⟩
    · rcases List.mem_append.1 hx with hx | hx
      · exact hf x hx
      · simp only [List.mem_singleton] at hx
        subst hx
        exact ⟨h3, h4⟩
    · by_cases hi : i < xs.length
      · rw [List.getElem?_append_left hi] at hx
        exact hc i x hx
      · have hil := (List.getElem?_eq_some_iff.1 hx).1
        obtain rfl : i = xs.length := by simp at hil; omega
        simp at hx
        subst hx
        rw [hl]
        exact ⟨h0, h1, h2⟩

set_option maxRecDepth 100000 in
theorem open_syms {H : Type} {enc : TypeId × Value → H} {w : World} {base : Nat} {spare : Nat → Bool} {held : Bool} {v : Value} {d : DataW H} {p : List MemPlace} {r : Reach} {b0 : Nat}
    (hv : Value.okWide Try.prog w r b0 22 v) (h : DataW.Trod enc Try.prog w base spare held 22 v d p) :
    ∃ (A : Option Addr) (xs : List Sm) (c : Nat), v = .slice A xs.length c ∧ Ss w A xs ∧ SymsFit xs := by
  obtain ⟨a0, len0, cap0, rfl⟩ := okWide_slice Try.underlying22 hv
  obtain ⟨fuel, hf⟩ := h
  obtain ⟨f0, f1, f2, hund, t0, t1, t2, o0, o1, o2⟩ := sym_row
  rcases open_slice Try.underlying22 hf with ⟨hcs, _⟩ | ⟨x, len, cap, m, n, D, Pl, hcs, _, hl, hm, hmm, _, hi⟩
  · simp [Value.cells] at hcs
    obtain ⟨rfl, rfl, rfl⟩ := hcs
    exact ⟨none, [], 0, rfl, fun h => absurd rfl h, fun s hs => by simp at hs⟩
  · simp [Value.cells] at hcs
    obtain ⟨rfl, rfl, rfl⟩ := hcs
    have hlm : len0 ≤ m := by rw [hmm]; split <;> omega
    obtain ⟨xs, hxl, hfit, hcells⟩ := pick_syms (w := w) (a := x) len0 (fun i hilt => by
      obtain ⟨cs', hc, ht'⟩ := hi i (by omega)
      rw [cells_sym] at hc
      obtain ⟨_, hcl, hat⟩ := World.cells?_some hc
      obtain ⟨ys, n', _, _, _, hyl, hg⟩ := DataW.trod_struct hund ht'
      have g0 := hg 0 f0 rfl
      have g1 := hg 1 f1 rfl
      have g2 := hg 2 f2 rfl
      rw [t0, o0, cells_u64] at g0
      rw [t1, o1, cells_i64] at g1
      rw [t2, o2, cells_str] at g2
      match ys, hyl, cs', hcl with
      | [y0, y1, y2], _, [v0, v1, v2], _ =>
        obtain ⟨a, e0, _, w0⟩ := DataW.trod_int Try.underlying31 (show DataW.trod enc Try.prog w base spare held n' 31 [v0] = some y0 from g0)
        obtain ⟨b, e1, _, _⟩ := DataW.trod_int Try.underlying3 (show DataW.trod enc Try.prog w base spare held n' 3 [v1] = some y1 from g1)
        obtain ⟨s, e2, _, w2⟩ := DataW.trod_string Try.underlying9 (show DataW.trod enc Try.prog w base spare held n' 9 [v2] = some y2 from g2)
        have hbd : 0 ≤ a ∧ a ≤ 18446744073709551615 := by simpa [Lit.wf, IntKind.min, IntKind.max, IntKind.signed, IntKind.bits] using w0
        obtain ⟨a', rfl⟩ := Int.eq_ofNat_of_zero_le hbd.1
        have k0 := hat 0 (by omega)
        have k1 := hat 1 (by omega)
        have k2 := hat 2 (by omega)
        rw [Go.Deep.add_add] at k0 k1 k2
        simp only [List.cons.injEq, and_true] at e0 e1 e2
        subst e0 e1 e2
        exact ⟨⟨a', b, s⟩, k0, k1, k2, w2, by simp only; omega⟩)
    refine ⟨some x, xs, cap0, by rw [hxl], fun hne => ?_, hfit⟩
    have h0 : 0 < xs.length := List.length_pos_iff.2 hne
    obtain ⟨b, off, spot⟩ := x
    obtain ⟨q0, _, _⟩ := hcells 0 xs[0] (List.getElem?_eq_getElem h0)
    have hspot : spot = none := by simpa [Addr.add] using World.cell?_spot q0
    subst hspot
    refine ⟨b, off, rfl, World.block_lt_of_cell? w _ (by simpa [Addr.add] using q0), fun i s hs => ?_⟩
    obtain ⟨r0, r1, r2⟩ := hcells i s hs
    have hadd : ∀ j, (⟨b, off, none⟩ : Addr).add j = ⟨b, off + j, none⟩ := fun j => by unfold Addr.add; split <;> simp_all
    rw [hadd] at r0 r1 r2
    exact ⟨r0, by rw [Nat.add_assoc]; exact r1, by rw [Nat.add_assoc]; exact r2⟩
end Go.Proofs.Ytpdjolkbjcdimaa
