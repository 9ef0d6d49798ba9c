/- The sections of a Plan 9 program, as NewFile lays them. -/
import Derived.Test.YtpdjolkbjcdimaaDoorRdNum
import Derived.Test.YtpdjolkbjcdimaaDoorSecData
namespace Go.Proofs.YtpdjolkbjcdimaaDoor
open Go.RowKit

def offAt (h : Nat) (sz : List Nat) (k : Nat) : Nat := h + (sz.take k).sum
def secNames : List ByteArray := [⟨#[116, 101, 120, 116]⟩, ⟨#[100, 97, 116, 97]⟩, ⟨#[115, 121, 109, 115]⟩, ⟨#[115, 112, 115, 122]⟩, ⟨#[112, 99, 115, 122]⟩]
/-- A section's block and its reader's, both from lo on. -/
def SecAt (gr lo : Nat) (w : World) (nm : ByteArray) (m off gx : Nat) : Prop := lo ≤ gx ∧ ∃ gs, lo ≤ gs ∧ Blk w gx 77 (secCells nm m off gs) ∧ Blk w gs 140 (srCells gr off off ((m : Int) + (off : Int)) m)
theorem SecAt.keeps {gr lo : Nat} {w w' : World} {nm : ByteArray} {m off gx : Nat} {S : Nat → Prop} (h : SecAt gr lo w nm m off gx) (hK : Keeps S w w') (hS : ∀ b, lo ≤ b → ¬ S b) : SecAt gr lo w' nm m off gx := by
  obtain ⟨h1, gs, h2, h3, h4⟩ := h
  exact ⟨h1, gs, h2, h3.keeps hK (hS _ h1), h4.keeps hK (hS _ h2)⟩
/-- The first k sections stand. -/
def Sects (gr lo ga h : Nat) (sz : List Nat) (k : Nat) (w : World) : Prop := ∃ gxs : List Nat, gxs.length = k ∧ Blk w ga 68 ((gxs.map fun g => Value.pointer (some ⟨g, 0, none⟩)) ++ List.replicate (5 - k) (Value.pointer none)).toArray ∧
  ∀ (j gx : Nat) (nm : ByteArray) (m : Nat), gxs[j]? = some gx → secNames[j]? = some nm → sz[j]? = some m → SecAt gr lo w nm m (offAt h sz j) gx
theorem Sects.keeps {gr lo ga h k : Nat} {sz : List Nat} {w w' : World} {S : Nat → Prop} (hs : Sects gr lo ga h sz k w) (hK : Keeps S w w') (hS : ∀ b, lo ≤ b → ¬ S b) (ha : ¬ S ga) : Sects gr lo ga h sz k w' := by
  obtain ⟨gxs, h1, h2, h3⟩ := hs
  exact ⟨gxs, h1, h2.keeps hK ha, fun j gx nm m q1 q2 q3 => (h3 j gx nm m q1 q2 q3).keeps hK hS⟩
theorem Sects.zero (gr lo ga h : Nat) (sz : List Nat) (w : World) (hb : Blk w ga 68 #[.pointer none, .pointer none, .pointer none, .pointer none, .pointer none]) : Sects gr lo ga h sz 0 w :=
  ⟨[], rfl, hb, fun j gx nm m q1 => by simp at q1⟩
theorem offAt_succ (h : Nat) (sz : List Nat) (k m : Nat) (hk : sz[k]? = some m) : offAt h sz (k + 1) = offAt h sz k + m := by
  unfold offAt
  obtain ⟨hlt, he⟩ := List.getElem?_eq_some_iff.1 hk
  rw [List.take_succ_eq_append_getElem hlt, List.sum_append, he]
  simp; omega
theorem offAt_le (h : Nat) (sz : List Nat) (k : Nat) : offAt h sz k ≤ h + sz.sum := by
  unfold offAt
  have := List.sum_append (l₁ := sz.take k) (l₂ := sz.drop k)
  rw [List.take_append_drop] at this
  omega
/-- One more section. -/
theorem Sects.snoc {gr lo ga h k : Nat} {sz : List Nat} {w w' : World} {nm : ByteArray} {m gx : Nat} (hs : Sects gr lo ga h sz k w) (hk : k < 5) (hnm : secNames[k]? = some nm) (hm : sz[k]? = some m) {S : Nat → Prop}
    (hK : Keeps S w w') (hS : ∀ b, lo ≤ b → b < w.heap.size → ¬ S b)
    (hb : ∀ cs : Array Value, Blk w ga 68 cs → Blk w' ga 68 (cs.setIfInBounds k (Value.pointer (some ⟨gx, 0, none⟩)))) (hx : SecAt gr lo w' nm m (offAt h sz k) gx) : Sects gr lo ga h sz (k + 1) w' := by
  obtain ⟨gxs, h1, h2, h3⟩ := hs
  refine ⟨gxs ++ [gx], by simp [h1], ?_, ?_⟩
  · have := hb _ h2
    have e : ((gxs.map fun g => Value.pointer (some ⟨g, 0, none⟩)) ++ List.replicate (5 - k) (Value.pointer none)).toArray.setIfInBounds k (Value.pointer (some ⟨gx, 0, none⟩)) = (((gxs ++ [gx]).map fun g => Value.pointer (some ⟨g, 0, none⟩)) ++ List.replicate (5 - (k + 1)) (Value.pointer none)).toArray := by
      rw [List.setIfInBounds_toArray]
      congr 1
      rw [List.set_append_right _ _ (by simp [h1]), List.map_append, List.append_assoc]
      congr 1
      rw [List.length_map, h1, Nat.sub_self, show 5 - k = (5 - (k + 1)) + 1 by omega, List.replicate_succ]
      rfl
    rw [e] at this
    exact this
  · intro j gx' nm' m' q1 q2 q3
    rcases Nat.lt_or_ge j k with hj | hj
    · rw [List.getElem?_append_left (by omega)] at q1
      obtain ⟨p1, gs, p2, p3, p4⟩ := h3 j gx' nm' m' q1 q2 q3
      exact ⟨p1, gs, p2, p3.keeps hK (hS _ p1 p3.lt), p4.keeps hK (hS _ p2 p4.lt)⟩
    · rw [List.getElem?_append_right (by omega)] at q1
      have hjk : j = k := by
        have := (List.getElem?_eq_some_iff.1 q1).1
        simp at this
        omega
      subst hjk
      rw [h1, Nat.sub_self] at q1
      simp at q1
      rw [hnm] at q2
      rw [hm] at q3
      injection q2 with q2
      injection q3 with q3
      subst q1 q2 q3
      exact hx
/-- The k-th name and size. -/
theorem sect_cells {w : World} {gt t : Nat} {T D S P Q : Nat} (h : Blk w gt t #[.string ⟨#[116, 101, 120, 116]⟩, .int .u32 (T : Nat), .string ⟨#[100, 97, 116, 97]⟩, .int .u32 (D : Nat), .string ⟨#[115, 121, 109, 115]⟩, .int .u32 (S : Nat), .string ⟨#[115, 112, 115, 122]⟩, .int .u32 (P : Nat), .string ⟨#[112, 99, 115, 122]⟩, .int .u32 (Q : Nat)]) (k : Nat) (hk : k < 5) :
    ∃ nm m, secNames[k]? = some nm ∧ [T, D, S, P, Q][k]? = some m ∧ w.cell? ⟨gt, k * 2, none⟩ = some (.string nm) ∧ w.cell? ⟨gt, k * 2 + 1, none⟩ = some (.int .u32 (m : Nat)) := by
  match k, hk with
  | 0, _ => exact ⟨_, _, rfl, rfl, h.cell 0, h.cell 1⟩
  | 1, _ => exact ⟨_, _, rfl, rfl, h.cell 2, h.cell 3⟩
  | 2, _ => exact ⟨_, _, rfl, rfl, h.cell 4, h.cell 5⟩
  | 3, _ => exact ⟨_, _, rfl, rfl, h.cell 6, h.cell 7⟩
  | 4, _ => exact ⟨_, _, rfl, rfl, h.cell 8, h.cell 9⟩
end Go.Proofs.YtpdjolkbjcdimaaDoor
