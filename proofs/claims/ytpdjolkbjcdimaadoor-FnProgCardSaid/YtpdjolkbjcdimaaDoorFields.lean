/- The reference's fields, in plain Lean: how many bytes fields have, and the numbers at the front of bytes. No program is in sight here. -/
import Derived.Test.YtpdjolkbjcdimaaDoorBase
namespace Go.Proofs.YtpdjolkbjcdimaaDoor
open Go.RowKit

/-- How many bytes the fields have (a field below 0 is so many bytes by themselves). -/
def fsize : List Int → Nat
  | [] => 0
  | f :: r => f.natAbs + fsize r
def piece (l : List UInt8) (o : Nat) (f : Int) : List Nat := if f < 0 then (List.range f.natAbs).map (fun k => (l[o + k]?.getD 0).toNat) else [bev l o f.natAbs]
/-- The numbers of fields, from place o of the bytes on. -/
def fnums (l : List UInt8) : Nat → List Int → List Nat
  | _, [] => []
  | o, f :: r => piece l o f ++ fnums l (o + f.natAbs) r
theorem fsize_snoc (fs : List Int) (f : Int) : fsize (fs ++ [f]) = fsize fs + f.natAbs := by
  induction fs with
  | nil => simp [fsize]
  | cons g r ih => simp only [List.cons_append, fsize, ih]; omega
theorem fnums_snoc (l : List UInt8) (fs : List Int) (f : Int) : ∀ o, fnums l o (fs ++ [f]) = fnums l o fs ++ piece l (o + fsize fs) f := by
  induction fs with
  | nil => intro o; simp [fnums, fsize]
  | cons g r ih => intro o; simp only [List.cons_append, fnums, ih, fsize, List.append_assoc, Nat.add_assoc]
theorem take_snoc {α : Type} (xs : List α) (k : Nat) (h : k < xs.length) : xs.take (k + 1) = xs.take k ++ [xs[k]] := List.take_succ_eq_append_getElem h
theorem fsize_take (fs : List Int) (k : Nat) (h : k < fs.length) : fsize (fs.take (k + 1)) = fsize (fs.take k) + (fs[k]?.getD 0).natAbs := by
  rw [take_snoc fs k h, fsize_snoc]; simp [List.getElem?_eq_getElem h]
theorem fnums_take (l : List UInt8) (fs : List Int) (k : Nat) (h : k < fs.length) : fnums l 0 (fs.take (k + 1)) = fnums l 0 (fs.take k) ++ piece l (fsize (fs.take k)) (fs[k]?.getD 0) := by
  rw [take_snoc fs k h, fnums_snoc]; simp [List.getElem?_eq_getElem h]
theorem fsize_take_le (fs : List Int) : ∀ k, fsize (fs.take k) ≤ fsize fs := by
  induction fs with
  | nil => intro k; simp
  | cons f r ih =>
    intro k
    cases k with
    | zero => simp [fsize]
    | succ k => simp only [List.take_succ_cons, fsize]; have := ih k; omega
/-- Numbers as cells. -/
def uvs (xs : List Nat) : List Value := xs.map fun (x : Nat) => .int .u64 (x : Int)
theorem uvs_length (xs : List Nat) : (uvs xs).length = xs.length := by simp [uvs]
theorem uvs_append (xs ys : List Nat) : uvs (xs ++ ys) = uvs xs ++ uvs ys := by simp [uvs]
theorem uvs_one (xs : List Nat) : ∀ u ∈ uvs xs, u.oneCell' = true := by
  intro u hu
  simp only [uvs, List.mem_map] at hu
  obtain ⟨x, _, rfl⟩ := hu
  rfl
/-- The numbers xs stand at A. -/
def Us (w : World) (A : Option Addr) (xs : List Nat) : Prop :=
  xs ≠ [] → ∃ b o, A = some ⟨b, o, none⟩ ∧ b < w.heap.size ∧ ∀ i, i < xs.length → w.cell? ⟨b, o + i, none⟩ = some (.int .u64 ((xs[i]?.getD 0 : Nat) : Int))
section
variable {S : Nat → Prop} {w w' : World}
theorem Us.nil (w : World) (A : Option Addr) : Us w A [] := fun h => absurd rfl h
theorem Us.at_ {A : Option Addr} {l : List Nat} (h : Us w A l) {k : Nat} (hk : k < l.length) :
    ∃ b o, A = some ⟨b, o, none⟩ ∧ b < w.heap.size ∧ ∀ i, i < l.length → w.cell? ⟨b, o + i, none⟩ = some (.int .u64 ((l[i]?.getD 0 : Nat) : Int)) :=
  h (by rintro rfl; simp at hk)
theorem Us.keep {A : Option Addr} {l : List Nat} (h : Us w A l) (hs : w.heap.size ≤ w'.heap.size) (hk : ∀ b o, A = some ⟨b, o, none⟩ → b < w.heap.size → w'.heap[b]? = w.heap[b]?) : Us w' A l := fun hne => by
  obtain ⟨b, o, hA, hb, hc⟩ := h hne
  exact ⟨b, o, hA, by omega, fun i hi => (World.cell?_of_block (w := w) (a := ⟨b, o + i, none⟩) (hk b o hA hb)).trans (hc i hi)⟩
theorem Us.keeps {A : Option Addr} {l : List Nat} (h : Us w A l) (hK : Keeps S w w') (hA : ∀ b o, A = some ⟨b, o, none⟩ → b < w.heap.size → ¬ S b) : Us w' A l :=
  h.keep hK.size fun b o he hb => hK.block b hb (hA b o he hb)
theorem Us.below {A : Option Addr} {l : List Nat} (h : Us w A l) (hb : Below w.heap.size w w') : Us w' A l := h.keep hb.size fun b _ _ hlt => hb.block b hlt
theorem Us.alloc {A : Option Addr} {l : List Nat} (h : Us w A l) (o : Obj) : Us (w.alloc o) A l := h.keep (by simp) fun b _ _ hlt => Below.heap_alloc w o b hlt
theorem Us.of_own {base e n : Nat} {A : Option Addr} {c : Nat} {l : List Nat} (h : w.ownsRow base e 1 (.slice A n c) n (uvs l)) : Us w A l ∧ n = l.length ∧ n ≤ c ∧ c ≤ maxLen ∧ (∀ b o, A = some ⟨b, o, none⟩ → base ≤ b ∧ b < w.heap.size) := by
  have hn : n = l.length := by have := h.1; rw [uvs_length] at this; omega
  rcases h.2 with ⟨hv, h0⟩ | ⟨g, cap, cur, hv, hb, hg, hnc, hcm, hcs, htake⟩
  · injection hv with h1 h2 h3
    subst h1 h3
    have : l = [] := List.eq_nil_of_length_eq_zero (by omega)
    subst this
    exact ⟨Us.nil _ _, hn, by omega, by simp [maxLen], fun _ _ hA => by cases hA⟩
  · injection hv with h1 h2 h3
    subst h1 h3
    have hlt := (Array.getElem?_eq_some_iff.1 hg).1
    refine ⟨fun _ => ⟨g, 0, rfl, hlt, fun i hi => ?_⟩, hn, hnc, hcm, fun b o hA => ?_⟩
    · rw [cell_of_row w g (0 + i) cur e (0, 0) hg]
      have h1 : (uvs l)[i]? = some (.int .u64 ((l[i]?.getD 0 : Nat) : Int)) := by simp [uvs, List.getElem?_eq_getElem hi]
      rw [← htake, List.getElem?_take, if_pos (by omega)] at h1
      simpa using h1
    · injection hA with hA
      injection hA with h1 h2
      subst h1
      exact ⟨hb, hlt⟩
/-- A new block of numbers reads so. -/
theorem Us.new (w : World) (t : TypeId) (xs : List Nat) {g : Nat} (hg : w.heap.size = g) : Us (w.alloc (.cells (uvs xs).toArray t)) (some ⟨g, 0, none⟩) xs := fun _ =>
  ⟨g, 0, rfl, by simp; omega, fun i hi => by
    subst hg
    rw [cell_of_row _ w.heap.size (0 + i) _ t (0, 0) (heap_alloc_new w _)]
    simp [uvs, List.getElem?_eq_getElem hi]⟩
/-- Integers as they lie in a slice of int. -/
def Is (w : World) (A : Option Addr) (xs : List Int) : Prop :=
  xs ≠ [] → ∃ b o, A = some ⟨b, o, none⟩ ∧ b < w.heap.size ∧ ∀ i, i < xs.length → w.cell? ⟨b, o + i, none⟩ = some (.int .i64 (xs[i]?.getD 0))
theorem Is.at_ {A : Option Addr} {l : List Int} (h : Is w A l) {k : Nat} (hk : k < l.length) :
    ∃ b o, A = some ⟨b, o, none⟩ ∧ b < w.heap.size ∧ ∀ i, i < l.length → w.cell? ⟨b, o + i, none⟩ = some (.int .i64 (l[i]?.getD 0)) :=
  h (by rintro rfl; simp at hk)
theorem Is.keep {A : Option Addr} {l : List Int} (h : Is w A l) (hs : w.heap.size ≤ w'.heap.size) (hk : ∀ b o, A = some ⟨b, o, none⟩ → b < w.heap.size → w'.heap[b]? = w.heap[b]?) : Is w' A l := fun hne => by
  obtain ⟨b, o, hA, hb, hc⟩ := h hne
  exact ⟨b, o, hA, by omega, fun i hi => (World.cell?_of_block (w := w) (a := ⟨b, o + i, none⟩) (hk b o hA hb)).trans (hc i hi)⟩
theorem Is.below {A : Option Addr} {l : List Int} (h : Is w A l) (hb : Below w.heap.size w w') : Is w' A l := h.keep hb.size fun b _ _ hlt => hb.block b hlt
/-- A new block of integers reads so. -/
theorem Is.new (w : World) (t : TypeId) (xs : List Int) : Is (w.alloc (.cells (xs.map (Value.int .i64)).toArray t)) (some ⟨w.heap.size, 0, none⟩) xs := fun _ =>
  ⟨w.heap.size, 0, rfl, by simp, fun i hi => by
    rw [cell_of_row _ w.heap.size (0 + i) _ t (0, 0) (heap_alloc_new w _)]
    simp [List.getElem?_eq_getElem hi]⟩
end
end Go.Proofs.YtpdjolkbjcdimaaDoor
