/- A Plan 9 program as it lies in memory; Known, Wide, the laws' bounds over it. -/
import Derived.Test.YtpdjolkbjcdimaaDoorTable
import Derived.Test.YtpdjolkbjcdimaaDoorJoined
import Derived.Test.YtpdjolkbjcdimaaDoorGrow
namespace Go.Proofs.YtpdjolkbjcdimaaDoor
open Go.RowKit

/-- A program: its numbers and its five pieces. -/
structure Prg where
  M : Nat
  B : Nat
  E : Nat
  T : Piece
  D : Piece
  S : Piece
  P : Piece
  Q : Piece
def Prg.cells (p : Prg) : Array Value := #[.int .u32 (p.M : Nat), .int .u32 (p.B : Nat), .int .u64 (p.E : Nat), .slice p.T.A p.T.l.length p.T.c, .slice p.D.A p.D.l.length p.D.c, .slice p.S.A p.S.l.length p.S.c, .slice p.P.A p.P.l.length p.P.c, .slice p.Q.A p.Q.l.length p.Q.c]
def Prg.stand (p : Prg) (w : World) : Prop := Bs w p.T.A p.T.l ∧ Bs w p.D.A p.D.l ∧ Bs w p.S.A p.S.l ∧ Bs w p.P.A p.P.l ∧ Bs w p.Q.A p.Q.l
theorem Prg.stand.below {p : Prg} {w w' : World} (h : p.stand w) (hb : Below w.heap.size w w') : p.stand w' := ⟨h.1.below hb, h.2.1.below hb, h.2.2.1.below hb, h.2.2.2.1.below hb, h.2.2.2.2.below hb⟩

def KnownM (m : Nat) : Prop := m = 491 ∨ m = 35479 ∨ m = 1607

def SaidB (Q : Prop) (w : World) (e : Ending) (w' : World) : Prop := ∃ b : Bool, e = .returned (.bool b) ∧ (b = true → Q) ∧ Below w.heap.size w w'

set_option maxHeartbeats 800000 in
theorem known_any (m : Nat) (w : World) : Calls Tryd.prog 9 #[.int .u32 (m : Nat)] w (SaidB (KnownM m) w) := by
  by_cases h1 : m = 491
  · subst h1
    go_enter Tryd.func9, Tryd.ntmps9
    go_wp2_with fail
    go_ret
    exact ⟨true, by simp, fun _ => .inl rfl, Below.refl _ _⟩
  by_cases h2 : m = 35479
  · subst h2
    go_enter Tryd.func9, Tryd.ntmps9
    go_wp2_with fail
    go_ret
    exact ⟨true, by simp, fun _ => .inr (.inl rfl), Below.refl _ _⟩
  by_cases h3 : m = 1607
  · subst h3
    go_enter Tryd.func9, Tryd.ntmps9
    go_wp2_with fail
    go_ret
    exact ⟨true, by simp, fun _ => .inr (.inr rfl), Below.refl _ _⟩
  have q1 : ¬ (m : Int) = 491 := by omega
  have q2 : ¬ (m : Int) = 35479 := by omega
  have q3 : ¬ (m : Int) = 1607 := by omega
  go_enter Tryd.func9, Tryd.ntmps9
  go_wp2_with fail
  go_ret
  exact ⟨false, by simp [q1, q2, q3], fun h => by simp at h, Below.refl _ _⟩

theorem wide_any (m : Nat) (w : World) (h : KnownM m) : Calls Tryd.prog 12 #[.int .u32 (m : Nat)] w fun e w' => e = .returned (.bool (decide (m = 35479))) ∧ w' = w := by
  rcases h with rfl | rfl | rfl
  all_goals
    go_enter Tryd.func12, Tryd.ntmps12
    go_wp2_with fail
    go_ret
    exact ⟨by simp, rfl⟩

set_option maxHeartbeats 1600000 in
theorem fits5_any (p : Prg) (w : World) : Calls Tryd.prog 8 #[.agg p.cells] w (SaidB (p.T.l.length ≤ 2147483647 ∧ p.D.l.length ≤ 2147483647 ∧ p.S.l.length ≤ 2147483647 ∧ p.P.l.length ≤ 2147483647 ∧ p.Q.l.length ≤ 2147483647) w) := by
  have hA0 : Below w.heap.size w (w.alloc (.cells p.cells 34)) := (Below.refl _ _).alloc (Nat.le_refl _) _
  have HB := Lib.hid hA0
  clear hA0
  unfold Prg.cells at *
  obtain ⟨M, B, E, ⟨tA, tl, tc⟩, ⟨dA, dl, dc⟩, ⟨sA, sl, sc⟩, ⟨pA, pl, pc⟩, ⟨qA, ql, qc⟩⟩ := p
  simp only at *
  by_cases h1 : 2147483647 < tl.length
  · go_enter Tryd.func8, Tryd.ntmps8
    go_wp2_with fail
    go_ret
    exact ⟨false, by simp, fun h => by simp at h, HB.out⟩
  by_cases h2 : 2147483647 < dl.length
  · go_enter Tryd.func8, Tryd.ntmps8
    go_wp2_with fail
    go_ret
    exact ⟨false, by simp, fun h => by simp at h, HB.out⟩
  by_cases h3 : 2147483647 < sl.length
  · go_enter Tryd.func8, Tryd.ntmps8
    go_wp2_with fail
    go_ret
    exact ⟨false, by simp, fun h => by simp at h, HB.out⟩
  by_cases h4 : 2147483647 < pl.length
  · go_enter Tryd.func8, Tryd.ntmps8
    go_wp2_with fail
    go_ret
    exact ⟨false, by simp, fun h => by simp at h, HB.out⟩
  by_cases h5 : 2147483647 < ql.length
  · go_enter Tryd.func8, Tryd.ntmps8
    go_wp2_with fail
    go_ret
    exact ⟨false, by simp, fun h => by simp at h, HB.out⟩
  go_enter Tryd.func8, Tryd.ntmps8
  go_wp2_with fail
  go_ret
  exact ⟨true, by simp, fun _ => ⟨by omega, by omega, by omega, by omega, by omega⟩, HB.out⟩
end Go.Proofs.YtpdjolkbjcdimaaDoor
