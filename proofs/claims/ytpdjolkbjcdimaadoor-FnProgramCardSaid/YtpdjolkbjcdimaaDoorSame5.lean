/- A row of sections as plain data; the reference's SameSections. -/
import Derived.Test.YtpdjolkbjcdimaaDoorHeads
namespace Go.Proofs.YtpdjolkbjcdimaaDoor
open Go.RowKit

/-- A section told: its name, its size, its place, its data. -/
structure Sx where
  nm : ByteArray
  m : Nat
  off : Nat
  d : Piece
def Sx.cells (x : Sx) : List Value := [.string x.nm, .int .u32 (x.m : Nat), .int .u32 (x.off : Nat), .slice x.d.A x.d.l.length x.d.c]
def sxCells (xs : List Sx) : List Value := xs.flatMap Sx.cells
theorem sxCells_length (xs : List Sx) : (sxCells xs).length = xs.length * 4 := by
  induction xs with
  | nil => rfl
  | cons x r ih => simp only [sxCells, Sx.cells, List.flatMap_cons, List.length_append, List.length_cons, List.length_nil] at *; omega
theorem sxCells_snoc (xs : List Sx) (x : Sx) : sxCells (xs ++ [x]) = sxCells xs ++ x.cells := by
  simp only [sxCells, List.flatMap_append, List.flatMap_cons, List.flatMap_nil, List.append_nil]
theorem sxCells_get : ∀ (xs : List Sx) (i : Nat) (x : Sx), xs[i]? = some x → (sxCells xs)[i * 4]? = some (.string x.nm) ∧ (sxCells xs)[i * 4 + 1]? = some (.int .u32 (x.m : Nat)) ∧ (sxCells xs)[i * 4 + 2]? = some (.int .u32 (x.off : Nat)) ∧ (sxCells xs)[i * 4 + 3]? = some (.slice x.d.A x.d.l.length x.d.c)
  | [], _, _, h => by simp at h
  | x :: r, 0, y, h => by
    simp at h; subst h
    exact ⟨rfl, rfl, rfl, rfl⟩
  | x :: r, i + 1, y, h => by
    have := sxCells_get r i y (by simpa using h)
    have e : sxCells (x :: r) = .string x.nm :: .int .u32 (x.m : Nat) :: .int .u32 (x.off : Nat) :: .slice x.d.A x.d.l.length x.d.c :: sxCells r := rfl
    rw [e, show (i + 1) * 4 = i * 4 + 1 + 1 + 1 + 1 by omega]
    simp only [List.getElem?_cons_succ, show i * 4 + 1 + 1 + 1 + 1 + 1 = (i * 4 + 1) + 1 + 1 + 1 + 1 from rfl, show i * 4 + 1 + 1 + 1 + 1 + 2 = (i * 4 + 2) + 1 + 1 + 1 + 1 from rfl, show i * 4 + 1 + 1 + 1 + 1 + 3 = (i * 4 + 3) + 1 + 1 + 1 + 1 from rfl]
    exact this
/-- The sections xs stand at A, with their data. -/
def Sxs (w : World) (A : Option Addr) (xs : List Sx) : Prop := (xs ≠ [] → ∃ b, A = some ⟨b, 0, none⟩ ∧ b < w.heap.size ∧ ∀ (i : Nat) (x : Sx), xs[i]? = some x →
    w.cell? ⟨b, i * 4, none⟩ = some (.string x.nm) ∧ w.cell? ⟨b, i * 4 + 1, none⟩ = some (.int .u32 (x.m : Nat)) ∧ w.cell? ⟨b, i * 4 + 2, none⟩ = some (.int .u32 (x.off : Nat)) ∧ w.cell? ⟨b, i * 4 + 3, none⟩ = some (.slice x.d.A x.d.l.length x.d.c)) ∧ ∀ x ∈ xs, Bs w x.d.A x.d.l
theorem Sxs.of_own {w : World} {base e n : Nat} {A : Option Addr} {c : Nat} {xs : List Sx} (h : w.ownsRow base e 4 (.slice A n c) n (sxCells xs)) (hb : ∀ x ∈ xs, Bs w x.d.A x.d.l) : Sxs w A xs ∧ n = xs.length := by
  have hn : n = xs.length := by have := h.1; rw [sxCells_length] at this; omega
  refine ⟨⟨fun hne => ?_, hb⟩, hn⟩
  rcases h.2 with ⟨hv, h0⟩ | ⟨g, cap, cur, hv, hb, hg, hnc, hcm, hcs, htake⟩
  · exact absurd (List.eq_nil_of_length_eq_zero (by omega)) hne
  · injection hv with h1 h2 h3
    subst h1 h3
    refine ⟨g, rfl, (Array.getElem?_eq_some_iff.1 hg).1, fun i s hi => ?_⟩
    have hlt := (List.getElem?_eq_some_iff.1 hi).1
    obtain ⟨q0, q1, q2, q3⟩ := sxCells_get xs i s hi
    rw [← htake] at q0 q1 q2 q3
    rw [List.getElem?_take, if_pos (by omega)] at q0 q1 q2 q3
    refine ⟨?_, ?_, ?_, ?_⟩
    · rw [cell_of_row w g _ cur e (0, 0) hg]; simpa using q0
    · rw [cell_of_row w g _ cur e (0, 0) hg]; simpa using q1
    · rw [cell_of_row w g _ cur e (0, 0) hg]; simpa using q2
    · rw [cell_of_row w g _ cur e (0, 0) hg]; simpa using q3
theorem Sxs.below {w w' : World} {A : Option Addr} {xs : List Sx} (h : Sxs w A xs) (hb : Below w.heap.size w w') : Sxs w' A xs := by
  refine ⟨fun hne => ?_, fun x hx => (h.2 x hx).below hb⟩
  obtain ⟨b, hA, hlt, hc⟩ := h.1 hne
  refine ⟨b, hA, Nat.lt_of_lt_of_le hlt hb.size, fun i s hs => ?_⟩
  obtain ⟨h1, h2, h3, h4⟩ := hc i s hs
  exact ⟨(hb.cell (p := ⟨b, _, none⟩) hlt).trans h1, (hb.cell (p := ⟨b, _, none⟩) hlt).trans h2, (hb.cell (p := ⟨b, _, none⟩) hlt).trans h3, (hb.cell (p := ⟨b, _, none⟩) hlt).trans h4⟩

set_option maxHeartbeats 800000 in
theorem sameSecs_any (A B : Option Addr) (xs ys : List Sx) (n c d : Nat) (w : World) (hn : xs.length = n) (hny : ys.length = n) (ha : Sxs w A xs) (hb : Sxs w B ys) (h20 : n ≤ 100)
    (heq : ∀ (i : Nat) (x y : Sx), xs[i]? = some x → ys[i]? = some y → x.nm = y.nm ∧ x.m = y.m ∧ x.off = y.off ∧ x.d.l = y.d.l) :
    Calls Tryd.prog 13 #[.slice A n c, .slice B n d] w fun e w' => e = .returned (.bool true) ∧ ∃ k, w' = w.drewN k := by
  go_enter Tryd.func13, Tryd.ntmps13
  go_wp2_with fail
  go_loopw [5] (fun i wr => ∃ k q : Nat, k ≤ n ∧ i = .int .i64 k ∧ wr = w.drewN q) (fun i _ => n - (intOf i).toNat)
  case atStart => exact ⟨0, 0, Nat.zero_le _, rfl, rfl⟩
  case round =>
    obtain ⟨k, q, hk, rfl, rfl⟩ := hrel
    by_cases hlt : k < n
    · have hx : xs[k]? = some xs[k] := List.getElem?_eq_getElem (by omega)
      have hy : ys[k]? = some ys[k] := List.getElem?_eq_getElem (by omega)
      obtain ⟨b1, rfl, _, h1⟩ := ha.1 (by rintro rfl; simp at hn; omega)
      obtain ⟨b2, rfl, _, h2⟩ := hb.1 (by rintro rfl; simp at hny; omega)
      obtain ⟨c0, c1, c2, c3⟩ := h1 k _ hx
      obtain ⟨d0, d1, d2, d3⟩ := h2 k _ hy
      obtain ⟨e0, e1, e2, e3⟩ := heq k _ _ hx hy
      have t1 := ha.2 _ (List.getElem_mem (show k < xs.length by omega))
      have t2 := hb.2 _ (List.getElem_mem (show k < ys.length by omega))
      generalize xs[k] = x at c0 c1 c2 c3 e0 e1 e2 e3 t1
      generalize ys[k] = y at d0 d1 d2 d3 e0 e1 e2 e3 t2
      obtain ⟨xn, xm, xo, ⟨xA, xl, xc⟩⟩ := x
      obtain ⟨yn, ym, yo, ⟨yA, yl, yc⟩⟩ := y
      simp only at *
      subst e0 e1 e2 e3
      have hk3 : (0 : Int) ≤ (k : Int) := by omega
      have hc1 := fun n => (t1.drewN n).text (P := Tryd.prog) xl.length xc rfl 22 5 9 Tryd.underlying22 Tryd.underlying5 Tryd.underlying9
      have hc2 := fun n => (t2.drewN n).text (P := Tryd.prog) xl.length yc rfl 22 5 9 Tryd.underlying22 Tryd.underlying5 Tryd.underlying9
      clear h1 h2 ha hb t1 t2 heq hx hy
      go_wp2_with fail
      go_quiet (fail)
      go_wp2_with fail
      go_roundw
      case rel => exact ⟨k + 1, _, by omega, by go_num, rfl⟩
      case measure => simp [intOf]; omega
    · obtain rfl : k = n := by omega
      clear ha hb heq
      go_wp2_with fail
      go_ret
      exact ⟨by simp, _, rfl⟩
end Go.Proofs.YtpdjolkbjcdimaaDoor
