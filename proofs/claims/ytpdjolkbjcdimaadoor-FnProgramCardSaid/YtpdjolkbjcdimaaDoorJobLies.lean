/- As XJobRows, for rows whose elements are of any number of cells. No program is in sight here. -/
import Derived.Test.YtpdjolkbjcdimaaDoorJobRows
import Derived.Deep.AppendLies
namespace Go.Proofs.YtpdjolkbjcdimaaDoor
open Go.RowKit
section
variable {P : Program} {ops : Array Oper} {Q : Exit → Act → World → Prop} {md : Region.Mode} {S : World → Prop}

/-- What is owned, of elements of sz cells, in block r or in one from H on. -/
def OwnN (H base e sz : Nat) (r : Option Nat) (n : Nat) (xs : List Value) (v : Value) (w : World) : Prop :=
  ∃ A c, v = .slice A n c ∧ w.ownsRow base e sz (.slice A n c) n xs ∧ ∀ b o, A = some ⟨b, o, none⟩ → some b = r ∨ H ≤ b
theorem OwnN.about (H base e sz : Nat) (r : Option Nat) (n : Nat) (xs : List Value) (v : Value) : About H r (OwnN H base e sz r n xs v) := fun w w' r' hr he ⟨A, c, hv, ho, hA⟩ => by
  refine ⟨A, c, hv, own_keeps ho he (fun g hg h => ?_), hA⟩
  obtain ⟨h1, h2⟩ := hr g h.symm
  cases A with
  | none => simp [Value.ownBlock] at hg
  | some a =>
    obtain ⟨b, o, s⟩ := a
    have hbg : b = g := by simpa [Value.ownBlock] using hg
    rcases ho.2 with ⟨hv0, _⟩ | ⟨g', cap, cur, hv0, _⟩
    · cases hv0
    · injection hv0 with e1
      injection e1 with e1
      injection e1 with e1 e2 e3
      subst e3
      rcases hA b o rfl with h3 | h3
      · rw [hbg] at h3; exact h2 h3.symm
      · omega
theorem pre_aboutN (H base e sz : Nat) (n : Nat) (xs : List Value) (A : Option Addr) (c : Nat) (r : Option Nat) (hr0 : ∀ b o, A = some ⟨b, o, none⟩ → r = some b) : About H r (fun w => w.ownsRow base e sz (.slice A n c) n xs) := fun w w' r' hr he ho =>
  (OwnN.about H base e sz r n xs (.slice A n c) w w' r' hr he ⟨A, c, rfl, ho, fun b o h => .inl (hr0 b o h).symm⟩).elim fun A' ⟨c', hv, h, _⟩ => by
    injection hv with e1 e2 e3
    subst e1 e3
    exact h
/-- A fresh block of these cells, as a slice of one element. -/
def FreshN (H : Nat) (t : TypeId) (xs : List Value) (v : Value) (w : World) : Prop := ∃ g, v = .slice (some ⟨g, 0, none⟩) 1 1 ∧ H ≤ g ∧ Blk w g t xs.toArray
theorem FreshN.about (H : Nat) (r : Option Nat) (t : TypeId) (xs : List Value) (v : Value) : About H r (FreshN H t xs v) := fun w w' r' hr he ⟨g, hv, hg, hb⟩ =>
  ⟨g, hv, hg, hb.keeps he (fun h => by have := (hr g h.symm).1; omega)⟩
/-- The append of one element, as a job. -/
theorem does_append_lies {p : Job} {a : Act} {w : World} {o : Oper} (i : Nat) (hi : p.i = i) (ho : ops[i]? = some o) (hw : Region.wanted o (yielded ops a.tmps) = true) (s x : Operand) (t : TypeId)
    (hop : o.op = .call { callee := .builtin .append, args := #[s, x], argTypes := #[t, t] })
    (base : Nat) (e : TypeId) (ti : TypeInfo) (z : Value) (size bytes : Nat) (ht : P.underlying t = some (.slice e)) (hti : P.info? e = some ti) (hz : ti.zero = some z)
    (hsize : ti.size = size) (hby : ti.bytes = bytes) (hzs : z.cells.size = size) (hsz : 0 < size)
    (A : Option Addr) (n c : Nat) (xs : List Value) (hs : a.eval s = .slice A n c) (hown : w.ownsRow base e size (.slice A n c) n xs)
    (g : Nat) (us : List Value) (tg : TypeId) (hx : a.eval x = .slice (some ⟨g, 0, none⟩) 1 1) (hg : Blk w g tg us.toArray) (hul : us.length = 1 * size) (h1 : ∀ u ∈ us, u.oneCell' = true)
    (h63 : n + 1 ≤ maxLen) (hbytes : (n + 1) * bytes ≤ 140737488355328) (hbase : base ≤ w.heap.size) (r : Option Nat) (hr : ∀ b o, A = some ⟨b, o, none⟩ → r = some b) (heff : p.eff = Eff r) (H : Nat) (hH : H ≤ w.heap.size)
    (hpost : ∀ v w', OwnN H base e size r (n + 1) (xs ++ us) v w' → p.post v w') : p.doesAt P ops a w := by
  obtain ⟨g', cap, w', hrun, h2, h3, h4, h5⟩ := run_append_lies (P := P) w t o.type base e ti z size bytes ht hti hz hsize hby hzs hsz (.slice A n c) n xs hown ⟨g, 0, none⟩ 1 1 us hul (fun j y hy => by
    rw [add_off, Nat.zero_add, hg.cell]
    simpa using hy) h1 (by omega) h63 hbytes hbase w.heap.size rfl
  have hblk : ∀ b, (Value.slice A n c).ownBlock = some b → some b = r := fun b hb => by
    rcases hown.2 with ⟨hv0, _⟩ | ⟨g', cap, cur, hv0, _⟩
    · rw [hv0] at hb; simp [Value.ownBlock] at hb
    · injection hv0 with e1
      subst e1
      have : g' = b := by simpa [Value.ownBlock] using hb
      rw [← this]
      exact (hr g' 0 rfl).symm
  refine does_value i (v := .slice (some ⟨g', 0, none⟩) (n + 1) cap) (w' := w') hi ho hw ?_ ?_ (hpost _ _ ⟨_, cap, rfl, h2, fun b o he => ?_⟩)
  · unfold execOp
    simp only [hop, resolve, invoke, builtin, Sem.run_bind, Sem.run_pure, Result.andThen_ok, List.map_toArray, List.map_cons, List.map_nil, hs, hx, hrun]
  · rw [heff]
    exact ⟨h3.os, h3.tape, h3.output, h3.size, fun k hk hne => h3.block k hk (fun e => hne (hblk k e.symm))⟩
  · injection he with he
    injection he with he
    rcases h4 with h4 | h4
    · exact .inl (hblk b (by rw [h4, he]))
    · exact .inr (by omega)
end
end Go.Proofs.YtpdjolkbjcdimaaDoor
