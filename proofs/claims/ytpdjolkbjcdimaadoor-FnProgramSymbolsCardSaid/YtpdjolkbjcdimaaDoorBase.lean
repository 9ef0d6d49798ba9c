/- Plain words and lemmas: the number that bytes spell, what stands ahead of the first 0, bytes in memory, which blocks a call leaves alone. No program is in sight here. -/
import Derived.WalkKit
import Derived.ProofKit
import Derived.OpenShut
import Derived.Below
import Derived.Laws.OwnMore
import Derived.Deep.Draws
import Derived.Lib.Hide
namespace Go.Proofs.YtpdjolkbjcdimaaDoor
open Go.RowKit

/-- The number that bytes spell, the highest first. -/
def be (l : List UInt8) : Nat := l.foldl (fun a x => a * 256 + x.toNat) 0

theorem be_lt_from (l : List UInt8) : ∀ a, l.foldl (fun a (x : UInt8) => a * 256 + x.toNat) a < (a + 1) * 256 ^ l.length := by
  induction l with
  | nil => intro a; simp
  | cons x r ih =>
    intro a
    have h1 := ih (a * 256 + x.toNat)
    have hx := x.toNat_lt
    simp only [List.foldl_cons, List.length_cons, Nat.pow_succ]
    refine Nat.lt_of_lt_of_le h1 ?_
    have h2 : a * 256 + x.toNat + 1 ≤ (a + 1) * 256 := by omega
    have h3 := Nat.mul_le_mul_right (256 ^ r.length) h2
    have h4 : (a + 1) * 256 * 256 ^ r.length = (a + 1) * (256 ^ r.length * 256) := by rw [Nat.mul_assoc, Nat.mul_comm 256]
    omega
theorem be_lt (l : List UInt8) : be l < 256 ^ l.length := by simpa [be] using be_lt_from l 0
theorem be_snoc (l : List UInt8) (x : UInt8) : be (l ++ [x]) = be l * 256 + x.toNat := by simp [be]

/-- k bytes from place o on. -/
def bev (l : List UInt8) (o k : Nat) : Nat := be ((l.drop o).take k)
theorem bev_zero (l : List UInt8) (o : Nat) : bev l o 0 = 0 := by simp [bev, be]
theorem bev_succ (l : List UInt8) (o k : Nat) (h : o + k < l.length) : bev l o (k + 1) = bev l o k * 256 + (l[o + k]?.getD 0).toNat := by
  unfold bev
  have hd : (l.drop o)[k]? = some (l[o + k]) := by rw [List.getElem?_drop]; exact List.getElem?_eq_getElem h
  rw [List.take_add_one, hd]
  simp only [Option.toList_some, be_snoc, List.getElem?_eq_getElem h, Option.getD_some]
theorem bev_lt (l : List UInt8) (o k : Nat) : bev l o k < 256 ^ k :=
  Nat.lt_of_lt_of_le (be_lt _) (Nat.pow_le_pow_right (by omega) (by simp; omega))
theorem bev_join (l : List UInt8) (o j k : Nat) (h : o + j + k ≤ l.length) : bev l o (j + k) = bev l o j * 256 ^ k + bev l (o + j) k := by
  induction k with
  | zero => simp [bev_zero]
  | succ k ih =>
    rw [← Nat.add_assoc, bev_succ l o (j + k) (by omega), bev_succ l (o + j) k (by omega), ih (by omega), Nat.pow_succ, ← Nat.add_assoc, Nat.add_mul, Nat.mul_assoc]
    omega

theorem or16 (x y : Int) (hx : 0 ≤ x ∧ x < 256) (hy : 0 ≤ y ∧ y < 256) : bits .or .u16 y (x * 256) = x * 256 + y := by
  rw [u16_or y (x * 256) (by omega) (by omega) (by omega) (by omega), Nat.or_comm, nat_join 8 _ _ (by omega) (by omega)]
  omega
theorem or32 (x y : Int) (hx : 0 ≤ x ∧ x < 65536) (hy : 0 ≤ y ∧ y < 65536) : bits .or .u32 (x * 65536) y = x * 65536 + y := by
  rw [u32_or (x * 65536) y (by omega) (by omega) (by omega) (by omega), nat_join 16 _ _ (by omega) (by omega)]
  omega
theorem or64 (x y : Int) (hx : 0 ≤ x ∧ x < 4294967296) (hy : 0 ≤ y ∧ y < 4294967296) : bits .or .u64 (x * 4294967296) y = x * 4294967296 + y := by
  rw [u64_or (x * 4294967296) y (by omega) (by omega) (by omega) (by omega), nat_join 32 _ _ (by omega) (by omega)]
  omega

/-- What stands ahead of the first 0, or all. -/
def upto (l : List UInt8) : List UInt8 := l.takeWhile (· != 0)
theorem upto_le (l : List UInt8) : (upto l).length ≤ l.length := (List.takeWhile_prefix _).length_le
theorem upto_take (l : List UInt8) : upto l = l.take (upto l).length := (List.prefix_iff_eq_take.1 (List.takeWhile_prefix _))
/-- No 0 in the first k, and a 0 at k: the text ends at k. -/
theorem upto_at : ∀ (l : List UInt8) (k : Nat), k < l.length → (∀ j, j < k → l[j]?.getD 0 ≠ 0) → l[k]?.getD 0 = 0 → (upto l).length = k
  | [], k, h, _, _ => by simp at h
  | x :: r, 0, _, _, h0 => by
    have : x = 0 := by simpa using h0
    simp [upto, this]
  | x :: r, k + 1, h, hk, h0 => by
    have hx : x ≠ 0 := by simpa using hk 0 (by omega)
    have ih := upto_at r k (by simpa using h) (fun j hj => by simpa using hk (j + 1) (by omega)) (by simpa using h0)
    simp only [upto, List.takeWhile_cons, bne_iff_ne, ne_eq, hx, not_false_iff, if_true, List.length_cons] at ih ⊢
    omega
theorem upto_all : ∀ (l : List UInt8), (∀ j, j < l.length → l[j]?.getD 0 ≠ 0) → upto l = l
  | [], _ => rfl
  | x :: r, h => by
    have hx : x ≠ 0 := by simpa using h 0 (by simp)
    have ih := upto_all r (fun j hj => by simpa using h (j + 1) (by simpa using hj))
    unfold upto at ih ⊢
    simp [hx, ih]

/-- The bytes l stand at A (nothing is asked of A where there is none). -/
def Bs (w : World) (A : Option Addr) (l : List UInt8) : Prop :=
  l ≠ [] → ∃ b o, A = some ⟨b, o, none⟩ ∧ b < w.heap.size ∧ ∀ i, i < l.length → w.cell? ⟨b, o + i, none⟩ = some (.int .u8 ((l[i]?.getD 0).toNat : Int))

/-- Which blocks may have turned: those in S, and those that are new. -/
structure Keeps (S : Nat → Prop) (w w' : World) : Prop where
  os : w'.os = w.os
  tape : w'.tape = w.tape
  output : w'.output = w.output
  size : w.heap.size ≤ w'.heap.size
  block : ∀ k, k < w.heap.size → ¬ S k → w'.heap[k]? = w.heap[k]?
section
variable {S T : Nat → Prop} {w w' w'' : World}
theorem Keeps.refl (S : Nat → Prop) (w : World) : Keeps S w w := ⟨rfl, rfl, rfl, Nat.le_refl _, fun _ _ _ => rfl⟩
theorem Keeps.trans (h : Keeps S w w') (k : Keeps S w' w'') : Keeps S w w'' :=
  ⟨k.os.trans h.os, k.tape.trans h.tape, k.output.trans h.output, Nat.le_trans h.size k.size, fun i hi hs => (k.block i (Nat.lt_of_lt_of_le hi h.size) hs).trans (h.block i hi hs)⟩
/-- What the second step may turn is in S, or new to the first world. -/
theorem Keeps.step (h : Keeps S w w') (k : Keeps T w' w'') (hT : ∀ i, i < w.heap.size → T i → S i) : Keeps S w w'' :=
  ⟨k.os.trans h.os, k.tape.trans h.tape, k.output.trans h.output, Nat.le_trans h.size k.size, fun i hi hs => (k.block i (Nat.lt_of_lt_of_le hi h.size) (fun ht => hs (hT i hi ht))).trans (h.block i hi hs)⟩
theorem Keeps.mono (h : Keeps S w w') (hS : ∀ i, S i → T i) : Keeps T w w' := ⟨h.os, h.tape, h.output, h.size, fun i hi hs => h.block i hi (fun h' => hs (hS i h'))⟩
theorem Keeps.drew (h : Keeps S w w') : Keeps S w w'.drew := ⟨h.os, h.tape, h.output, h.size, h.block⟩
theorem Keeps.drewN (h : Keeps S w w') (n : Nat) : Keeps S w (w'.drewN n) := ⟨h.os, h.tape, h.output, h.size, h.block⟩
theorem Keeps.alloc (h : Keeps S w w') (o : Obj) : Keeps S w (w'.alloc o) :=
  h.trans ⟨rfl, rfl, rfl, by simp, fun k hk _ => Below.heap_alloc _ _ _ hk⟩
theorem Keeps.setCell (h : Keeps S w w') {p : Addr} (hp : p.block < w.heap.size → S p.block) (u : Value) : Keeps S w (w'.setCell p u) :=
  h.step (T := fun i => i = p.block) ⟨rfl, rfl, rfl, by simp [World.setCell], fun k _ hne => Below.heap_setCell _ _ _ _ hne⟩ (fun i hi he => by subst he; exact hp hi)
theorem Keeps.below {B : Nat} (h : Keeps S w w') (hB : B ≤ w.heap.size) (hS : ∀ i, S i → B ≤ i) : Below B w w' :=
  ⟨h.os, h.tape, h.output, h.size, fun k hk => h.block k (by omega) (fun hs => by have := hS k hs; omega)⟩
theorem Keeps.of_below (h : Below w.heap.size w w') (S : Nat → Prop) : Keeps S w w' := ⟨h.os, h.tape, h.output, h.size, fun k hk _ => h.block k hk⟩
theorem Keeps.of_below' {B : Nat} (h : Below B w w') (S : Nat → Prop) (hS : ∀ i, i < w.heap.size → ¬ S i → i < B) : Keeps S w w' := ⟨h.os, h.tape, h.output, h.size, fun k hk hs => h.block k (hS k hk hs)⟩
theorem Keeps.cell (h : Keeps S w w') {p : Addr} (hp : p.block < w.heap.size) (hs : ¬ S p.block) : w'.cell? p = w.cell? p := World.cell?_of_block (w := w) (h.block p.block hp hs)
theorem Keeps.frozen (h : Keeps S w w') {p : Addr} (hp : p.block < w.heap.size) (hs : ¬ S p.block) : w'.frozen? p = w.frozen? p := World.frozen?_of_block (w := w) (h.block p.block hp hs)

theorem Bs.nil (w : World) (A : Option Addr) : Bs w A [] := fun h => absurd rfl h
theorem Bs.at_ {A : Option Addr} {l : List UInt8} (h : Bs w A l) {k : Nat} (hk : k < l.length) :
    ∃ b o, A = some ⟨b, o, none⟩ ∧ b < w.heap.size ∧ ∀ i, i < l.length → w.cell? ⟨b, o + i, none⟩ = some (.int .u8 ((l[i]?.getD 0).toNat : Int)) :=
  h (by rintro rfl; simp at hk)
theorem Bs.keep {A : Option Addr} {l : List UInt8} (h : Bs w A l) (hs : w.heap.size ≤ w'.heap.size) (hk : ∀ b o, A = some ⟨b, o, none⟩ → b < w.heap.size → w'.heap[b]? = w.heap[b]?) : Bs w' A l := fun hne => by
  obtain ⟨b, o, hA, hb, hc⟩ := h hne
  exact ⟨b, o, hA, by omega, fun i hi => (World.cell?_of_block (w := w) (a := ⟨b, o + i, none⟩) (hk b o hA hb)).trans (hc i hi)⟩
theorem Bs.keeps {A : Option Addr} {l : List UInt8} (h : Bs w A l) (hK : Keeps S w w') (hA : ∀ b o, A = some ⟨b, o, none⟩ → b < w.heap.size → ¬ S b) : Bs w' A l :=
  h.keep hK.size fun b o he hb => hK.block b hb (hA b o he hb)
theorem Bs.below {A : Option Addr} {l : List UInt8} (h : Bs w A l) (hb : Below w.heap.size w w') : Bs w' A l := h.keep hb.size fun b _ _ hlt => hb.block b hlt
theorem Bs.drewN {A : Option Addr} {l : List UInt8} (h : Bs w A l) (n : Nat) : Bs (w.drewN n) A l := h
theorem Bs.alloc {A : Option Addr} {l : List UInt8} (h : Bs w A l) (o : Obj) : Bs (w.alloc o) A l := h.keep (by simp) fun b _ _ hlt => Below.heap_alloc w o b hlt
theorem Bs.far_ {A : Option Addr} {l : List UInt8} (h : Bs w A l) {p : Addr} (hp : ∀ b o, A = some ⟨b, o, none⟩ → b ≠ p.block) (u : Value) : Bs (w.setCell p u) A l :=
  h.keep (by simp [World.setCell]) fun b o he _ => Below.heap_setCell w p u b (hp b o he)
/-- Behind a cut 's[k:]' (the model keeps the old address where the capacity is k). -/
theorem Bs.drop {A : Option Addr} {l : List UInt8} (h : Bs w A l) {k cap : Nat} (hc : l.length ≤ cap) : Bs w (if cap = k then A else A.map (·.add k)) (l.drop k) := fun hne => by
  have hk : k < l.length := by
    rcases Nat.lt_or_ge k l.length with h1 | h1
    · exact h1
    · exact absurd (List.drop_eq_nil_of_le h1) hne
  obtain ⟨b, o, rfl, hb, hcell⟩ := h.at_ hk
  rw [if_neg (by omega)]
  refine ⟨b, o + k, by unfold Addr.add; by_cases h0 : k = 0 <;> simp [h0], hb, fun i hi => ?_⟩
  have := hcell (k + i) (by simp at hi; omega)
  rw [List.getElem?_drop, Nat.add_assoc]
  exact this
theorem Bs.take {A : Option Addr} {l : List UInt8} (h : Bs w A l) (k : Nat) : Bs w A (l.take k) := fun hne => by
  have h0 : l ≠ [] := by rintro rfl; simp at hne
  obtain ⟨b, o, rfl, hb, hcell⟩ := h h0
  refine ⟨b, o, rfl, hb, fun i hi => ?_⟩
  have hi' : i < k ∧ i < l.length := by simp at hi; omega
  rw [List.getElem?_take, if_pos hi'.1]
  exact hcell i hi'.2

/-- A block that is known whole, none of it frozen. -/
def Blk (w : World) (g : Nat) (t : TypeId) (cs : Array Value) : Prop := w.heap[g]? = some (.cells cs t (0, 0))
variable {g : Nat} {t : TypeId} {cs : Array Value}
theorem Blk.lt (h : Blk w g t cs) : g < w.heap.size := (Array.getElem?_eq_some_iff.1 h).1
theorem Blk.cell (h : Blk w g t cs) (i : Nat) : w.cell? ⟨g, i, none⟩ = cs[i]? := cell_of_row w g i cs t (0, 0) h
theorem Blk.frozen (h : Blk w g t cs) (i : Nat) : w.frozen? ⟨g, i, none⟩ = false := by unfold Blk at h; simp [World.frozen?, h]
theorem Blk.new (w : World) (t : TypeId) (cs : Array Value) : Blk (w.alloc (.cells cs t)) w.heap.size t cs := heap_alloc_new w _
theorem Blk.at_ (w : World) (t : TypeId) (cs : Array Value) {g : Nat} (hg : w.heap.size = g) : Blk (w.alloc (.cells cs t)) g t cs := by subst hg; exact heap_alloc_new w _
theorem Blk.drewN (h : Blk w g t cs) (n : Nat) : Blk (w.drewN n) g t cs := h
theorem Blk.alloc (h : Blk w g t cs) (o : Obj) : Blk (w.alloc o) g t cs := (Below.heap_alloc w o g h.lt).trans h
theorem Blk.set_ (h : Blk w g t cs) (i : Nat) (u : Value) : Blk (w.setCell ⟨g, i, none⟩ u) g t (cs.setIfInBounds i u) := by
  unfold Blk at h ⊢
  simp [World.setCell, Array.getElem?_modify, h]
theorem Blk.far (h : Blk w g t cs) {p : Addr} (hp : g ≠ p.block) (u : Value) : Blk (w.setCell p u) g t cs := (Below.heap_setCell w p u g hp).trans h
theorem Blk.keeps (h : Blk w g t cs) (hK : Keeps S w w') (hs : ¬ S g) : Blk w' g t cs := (hK.block g h.lt hs).trans h
theorem Blk.below {B : Nat} (h : Blk w g t cs) (hb : Below B w w') (hg : g < B) : Blk w' g t cs := (hb.block g hg).trans h
end
/-- Bytes as the cells of a block. -/
def bvs (l : List UInt8) : List Value := l.map fun x => .int .u8 (x.toNat : Int)
theorem bvs_length (l : List UInt8) : (bvs l).length = l.length := by simp [bvs]
theorem bvs_get (l : List UInt8) (i : Nat) (h : i < l.length) : (bvs l)[i]? = some (.int .u8 ((l[i]?.getD 0).toNat : Int)) := by
  simp [bvs, List.getElem?_eq_getElem h]
theorem bvs_one (l : List UInt8) : ∀ u ∈ bvs l, u.oneCell' = true := by
  intro u hu
  simp only [bvs, List.mem_map] at hu
  obtain ⟨x, _, rfl⟩ := hu
  rfl
/-- An owned row of bytes reads as its bytes. -/
theorem Bs.of_own {w : World} {base e n : Nat} {A : Option Addr} {c : Nat} {l : List UInt8} (h : w.ownsRow base e 1 (.slice A n c) n (bvs l)) : Bs w A l ∧ n = l.length ∧ n ≤ c ∧ c ≤ maxLen ∧ (∀ b o, A = some ⟨b, o, none⟩ → base ≤ b ∧ b < w.heap.size) := by
  have hn : n = l.length := by have := h.1; rw [bvs_length] at this; omega
  rcases h.2 with ⟨hv, h0⟩ | ⟨g, cap, cur, hv, hb, hg, hnc, hcm, hcs, htake⟩
  · injection hv with h1 h2 h3
    subst h1 h3
    have : l = [] := List.eq_nil_of_length_eq_zero (by omega)
    subst this
    exact ⟨Bs.nil _ _, hn, by omega, by simp [maxLen], fun _ _ hA => by cases hA⟩
  · injection hv with h1 h2 h3
    subst h1 h3
    have hlt := (Array.getElem?_eq_some_iff.1 hg).1
    refine ⟨fun _ => ⟨g, 0, rfl, hlt, fun i hi => ?_⟩, hn, hnc, hcm, fun b o hA => ?_⟩
    · rw [cell_of_row w g (0 + i) cur e (0, 0) hg]
      have h1 := bvs_get l i hi
      rw [← htake, List.getElem?_take, if_pos (by omega)] at h1
      simpa using h1
    · injection hA with hA
      injection hA with h1 h2
      subst h1
      exact ⟨hb, hlt⟩
end Go.Proofs.YtpdjolkbjcdimaaDoor
