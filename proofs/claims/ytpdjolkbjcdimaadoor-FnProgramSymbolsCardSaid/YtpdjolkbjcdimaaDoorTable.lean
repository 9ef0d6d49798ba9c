/- The table of symbols, in plain Lean: a number as bytes, a symbol as bytes, what a walk over a table meets. No program is in sight here. -/
import Derived.Test.YtpdjolkbjcdimaaDoorBase
namespace Go.Proofs.YtpdjolkbjcdimaaDoor
open Go.RowKit

/-- A number as k bytes, the highest first. -/
def bes (v : Nat) : Nat → List UInt8
  | 0 => []
  | k + 1 => UInt8.ofNat (v / 256 ^ k) :: bes v k
theorem bes_length (v k : Nat) : (bes v k).length = k := by
  induction k with
  | zero => rfl
  | succ k ih => simp [bes, ih]
theorem be_from (l : List UInt8) : ∀ a, l.foldl (fun a (x : UInt8) => a * 256 + x.toNat) a = a * 256 ^ l.length + be l := by
  induction l with
  | nil => intro a; simp [be]
  | cons x r ih =>
    intro a
    have h1 := ih (a * 256 + x.toNat)
    have h2 := ih x.toNat
    simp only [be, List.foldl_cons, List.length_cons, Nat.zero_mul, Nat.zero_add] at *
    rw [h1, h2, Nat.pow_succ, Nat.add_mul, Nat.mul_assoc, Nat.mul_comm 256, Nat.add_assoc]
theorem be_cons (x : UInt8) (r : List UInt8) : be (x :: r) = x.toNat * 256 ^ r.length + be r := by
  have := be_from r x.toNat
  simpa [be] using this
theorem be_bes (v k : Nat) : be (bes v k) = v % 256 ^ k := by
  induction k with
  | zero => simp [bes, be, Nat.mod_one]
  | succ k ih =>
    rw [bes, be_cons, bes_length, ih, UInt8.toNat_ofNat']
    have h := Nat.mod_mul (x := v) (a := 256 ^ k) (b := 256)
    have h8 : (2 ^ 8 : Nat) = 256 := rfl
    rw [show 256 ^ (k + 1) = 256 ^ k * 256 from Nat.pow_succ .., h, Nat.add_comm, Nat.mul_comm (256 ^ k)]
theorem be_bes_small (v k : Nat) (h : v < 256 ^ k) : be (bes v k) = v := by rw [be_bes, Nat.mod_eq_of_lt h]

/-- A symbol: its value, its kind, its name. -/
structure Sm where
  v : Nat
  t : Int
  n : ByteArray
/-- A symbol that can be written with pointers of p bytes. -/
structure Sm.Good (p : Nat) (s : Sm) : Prop where
  kind : s.t = 84 ∨ s.t = 116 ∨ s.t = 68 ∨ s.t = 100 ∨ s.t = 66 ∨ s.t = 98
  short : s.n.size ≤ 40
  small : s.v < 256 ^ p
  full : ∀ j, j < s.n.size → s.n.data.toList[j]?.getD 0 ≠ 0
/-- A symbol as bytes. -/
def Sm.bytes (p : Nat) (s : Sm) : List UInt8 := bes s.v p ++ (UInt8.ofNat (s.t.toNat + 128) :: (s.n.data.toList ++ [0]))
def tbl (p : Nat) : List Sm → List UInt8
  | [] => []
  | s :: r => s.bytes p ++ tbl p r
theorem Sm.bytes_length (p : Nat) (s : Sm) : (s.bytes p).length = p + 1 + s.n.size + 1 := by
  simp [Sm.bytes, bes_length]; omega
theorem tbl_snoc (p : Nat) (xs : List Sm) (s : Sm) : tbl p (xs ++ [s]) = tbl p xs ++ s.bytes p := by
  induction xs with
  | nil => simp [tbl]
  | cons x r ih => simp [tbl, ih]
theorem tbl_length (p : Nat) : ∀ (xs : List Sm), (∀ x ∈ xs, x.Good p) → (tbl p xs).length ≤ xs.length * (p + 42)
  | [], _ => by simp [tbl]
  | x :: r, h => by
    have h1 := tbl_length p r (fun y hy => h y (by simp [hy]))
    have h2 := (h x (by simp)).short
    simp only [tbl, List.length_append, Sm.bytes_length, List.length_cons, Nat.add_mul]
    omega
theorem tbl_drop (p : Nat) (xs : List Sm) (k : Nat) (h : k < xs.length) : tbl p (xs.drop k) = xs[k].bytes p ++ tbl p (xs.drop (k + 1)) := by
  rw [List.drop_eq_getElem_cons h, tbl]
theorem tbl_split (p : Nat) (xs : List Sm) (k : Nat) : tbl p xs = tbl p (xs.take k) ++ tbl p (xs.drop k) := by
  induction xs generalizing k with
  | nil => simp [tbl]
  | cons x r ih =>
    cases k with
    | zero => simp [tbl]
    | succ k => simp [tbl, ih k]
/-- What stands at the front of a symbol and what follows it. -/
theorem front_num (p : Nat) (s : Sm) (r : List UInt8) (h : s.Good p) : bev (s.bytes p ++ r) 0 p = s.v := by
  unfold bev
  have hl : p = (bes s.v p).length := (bes_length _ _).symm
  rw [List.drop_zero, Sm.bytes, List.append_assoc, List.take_append_of_le_length (by rw [bes_length]; omega), List.take_of_length_le (by rw [bes_length]; omega), be_bes_small _ _ h.small]
theorem front_kind (p : Nat) (s : Sm) (r : List UInt8) : (s.bytes p ++ r)[p]?.getD 0 = UInt8.ofNat (s.t.toNat + 128) := by
  rw [Sm.bytes, List.append_assoc, List.getElem?_append_right (by rw [bes_length]; omega), bes_length, Nat.sub_self]
  rfl
theorem front_name (p : Nat) (s : Sm) (r : List UInt8) (j : Nat) (h : j < s.n.size) : (s.bytes p ++ r)[p + 1 + j]?.getD 0 = s.n.data.toList[j]?.getD 0 := by
  rw [Sm.bytes, List.append_assoc, List.getElem?_append_right (by rw [bes_length]; omega), bes_length, show p + 1 + j - p = j + 1 by omega, List.cons_append, List.getElem?_cons_succ, List.append_assoc,
    List.getElem?_append_left (by simpa using h)]
theorem front_end (p : Nat) (s : Sm) (r : List UInt8) : (s.bytes p ++ r)[p + 1 + s.n.size]?.getD 0 = 0 := by
  rw [Sm.bytes, List.append_assoc, List.getElem?_append_right (by rw [bes_length]; omega), bes_length, show p + 1 + s.n.size - p = s.n.size + 1 by omega, List.cons_append, List.getElem?_cons_succ, List.append_assoc,
    List.getElem?_append_right (by simp)]
  simp
theorem front_text (p : Nat) (s : Sm) (r : List UInt8) : ((s.bytes p ++ r).drop (p + 1)).take s.n.size = s.n.data.toList := by
  rw [Sm.bytes, List.append_assoc, List.drop_append, List.drop_of_length_le (by rw [bes_length]; omega), bes_length, show p + 1 - p = 1 by omega, List.nil_append, List.cons_append, List.drop_succ_cons, List.drop_zero, List.append_assoc,
    List.take_append_of_le_length (by simp), List.take_of_length_le (by simp)]
theorem front_rest (p : Nat) (s : Sm) (r : List UInt8) : (s.bytes p ++ r).drop (p + 1 + (s.n.size + 1)) = r := by
  rw [List.drop_append_of_le_length (by rw [Sm.bytes_length]; omega), List.drop_of_length_le (by rw [Sm.bytes_length]; omega), List.nil_append]
end Go.Proofs.YtpdjolkbjcdimaaDoor
