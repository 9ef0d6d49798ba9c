/- What the bytes of a program say when they are read: its numbers, and where its sections lie. -/
import Derived.Test.YtpdjolkbjcdimaaDoorWritten
import Derived.Test.YtpdjolkbjcdimaaDoorZzNew
namespace Go.Proofs.YtpdjolkbjcdimaaDoor
open Go.RowKit

theorem bev_skip (a r : List UInt8) (n o k : Nat) (hn : a.length = n) : bev (a ++ r) (n + o) k = bev r o k := by
  unfold bev
  subst hn
  have h : (a ++ r).drop (a.length + o) = r.drop o := by
    rw [← List.drop_drop, List.drop_left]
  rw [h]
theorem bev_front (v k : Nat) (r : List UInt8) (hv : v < 256 ^ k) : bev (bes v k ++ r) 0 k = v := by
  unfold bev
  rw [List.drop_zero, List.take_left' (bes_length v k), be_bes_small v k hv]
/-- The pieces behind the front. -/
def Prg.rest (p : Prg) : List UInt8 := p.T.l ++ (p.D.l ++ (p.S.l ++ (p.P.l ++ (p.Q.l ++ []))))
def Prg.more (p : Prg) : List UInt8 := if p.M = 35479 then bes p.E 8 ++ p.rest else p.rest
theorem Prg.bytes_eq (p : Prg) : p.bytes = bes p.M 4 ++ (bes p.T.l.length 4 ++ (bes p.D.l.length 4 ++ (bes p.B 4 ++ (bes p.S.l.length 4 ++ (bes p.E 4 ++ (bes p.P.l.length 4 ++ (bes p.Q.l.length 4 ++ p.more))))))) := by
  unfold Prg.bytes Prg.front Prg.more Prg.head Prg.sizes Prg.rest
  split <;> simp [List.append_assoc]
def Prg.hdr (p : Prg) : Nat := if p.M = 35479 then 40 else 32
def Prg.ptr (p : Prg) : Nat := if p.M = 35479 then 8 else 4
def Prg.load (p : Prg) : Nat := if p.M = 35479 then 2097152 else 4096
theorem Prg.front_len (p : Prg) : p.front.length = p.hdr := by
  unfold Prg.front Prg.hdr
  split <;> simp [bes_length, p.head_length]
theorem Prg.heads (p : Prg) (hk : KnownM p.M) (hB : p.B < 4294967296) (hE : p.E < 4294967296) (hs : p.T.l.length + (p.D.l.length + (p.S.l.length + (p.P.l.length + p.Q.l.length))) ≤ 900000) :
    Heads p.bytes p.M p.T.l.length p.D.l.length p.B p.S.l.length p.E p.P.l.length p.Q.l.length p.hdr p.ptr p.load p.E := by
  have h4 : (256 : Nat) ^ 4 = 4294967296 := by decide
  have h8 : (256 : Nat) ^ 8 = 18446744073709551616 := by decide
  have hM : p.M < 256 ^ 4 := by rcases hk with h | h | h <;> omega
  refine ⟨?_, ?_, ?_, ?_, ?_, ?_, ?_, ?_, by omega, ?_, ?_⟩
  · rw [p.bytes_eq]; exact bev_front _ _ _ hM
  · rw [p.bytes_eq, bev_skip _ _ 4 0 4 (bes_length _ _)]; exact bev_front _ _ _ (by omega)
  · rw [p.bytes_eq, bev_skip _ _ 4 4 4 (bes_length _ _), bev_skip _ _ 4 0 4 (bes_length _ _)]; exact bev_front _ _ _ (by omega)
  · rw [p.bytes_eq, bev_skip _ _ 4 8 4 (bes_length _ _), bev_skip _ _ 4 4 4 (bes_length _ _), bev_skip _ _ 4 0 4 (bes_length _ _)]; exact bev_front _ _ _ (by omega)
  · rw [p.bytes_eq, bev_skip _ _ 4 12 4 (bes_length _ _), bev_skip _ _ 4 8 4 (bes_length _ _), bev_skip _ _ 4 4 4 (bes_length _ _), bev_skip _ _ 4 0 4 (bes_length _ _)]; exact bev_front _ _ _ (by omega)
  · rw [p.bytes_eq, bev_skip _ _ 4 16 4 (bes_length _ _), bev_skip _ _ 4 12 4 (bes_length _ _), bev_skip _ _ 4 8 4 (bes_length _ _), bev_skip _ _ 4 4 4 (bes_length _ _), bev_skip _ _ 4 0 4 (bes_length _ _)]; exact bev_front _ _ _ (by omega)
  · rw [p.bytes_eq, bev_skip _ _ 4 20 4 (bes_length _ _), bev_skip _ _ 4 16 4 (bes_length _ _), bev_skip _ _ 4 12 4 (bes_length _ _), bev_skip _ _ 4 8 4 (bes_length _ _), bev_skip _ _ 4 4 4 (bes_length _ _), bev_skip _ _ 4 0 4 (bes_length _ _)]; exact bev_front _ _ _ (by omega)
  · rw [p.bytes_eq, bev_skip _ _ 4 24 4 (bes_length _ _), bev_skip _ _ 4 20 4 (bes_length _ _), bev_skip _ _ 4 16 4 (bes_length _ _), bev_skip _ _ 4 12 4 (bes_length _ _), bev_skip _ _ 4 8 4 (bes_length _ _), bev_skip _ _ 4 4 4 (bes_length _ _), bev_skip _ _ 4 0 4 (bes_length _ _)]; exact bev_front _ _ _ (by omega)
  · rw [← p.front_len]
    unfold Prg.bytes
    simp only [List.length_append]
    omega
  · by_cases hw : p.M = 35479
    · refine .inl ⟨hw, by simp [Prg.hdr, hw], by simp [Prg.ptr, hw], by simp [Prg.load, hw], ?_⟩
      rw [bev_take _ _ _ _ (by omega)]
      have h32 : p.bytes.drop 32 = p.more := by
        have e : p.bytes = p.head ++ p.more := by
          rw [p.bytes_eq]
          unfold Prg.head Prg.sizes
          simp [List.append_assoc]
        rw [e]
        exact List.drop_left' p.head_length
      rw [h32]
      unfold Prg.more
      rw [if_pos hw]
      exact bev_front _ _ _ (by omega)
    · refine .inr ⟨?_, by simp [Prg.hdr, hw], by simp [Prg.ptr, hw], by simp [Prg.load, hw], rfl⟩
      rcases hk with h | h | h
      · exact .inl h
      · exact absurd h hw
      · exact .inr h
def Prg.pieces (p : Prg) : List Piece := [p.T, p.D, p.S, p.P, p.Q]
def Prg.lens (p : Prg) : List Nat := [p.T.l.length, p.D.l.length, p.S.l.length, p.P.l.length, p.Q.l.length]
theorem drop_take_at (a b c : List UInt8) (n : Nat) (h : a.length = n) : ((a ++ (b ++ c)).drop n).take b.length = b := by
  rw [List.drop_left' h, List.take_left' rfl]
theorem Prg.data_at (p : Prg) (j : Nat) (q : Piece) (h : p.pieces[j]? = some q) : (p.bytes.drop (offAt p.hdr p.lens j)).take q.l.length = q.l := by
  have hf := p.front_len
  unfold Prg.bytes
  match j with
  | 0 =>
    obtain rfl : p.T = q := by simpa [Prg.pieces] using h
    exact drop_take_at _ _ _ _ (by simp [offAt, Prg.lens, hf])
  | 1 =>
    obtain rfl : p.D = q := by simpa [Prg.pieces] using h
    rw [show p.front ++ (p.T.l ++ (p.D.l ++ (p.S.l ++ (p.P.l ++ (p.Q.l ++ []))))) = (p.front ++ p.T.l) ++ (p.D.l ++ (p.S.l ++ (p.P.l ++ (p.Q.l ++ [])))) by simp [List.append_assoc]]
    exact drop_take_at _ _ _ _ (by simp [offAt, Prg.lens, hf])
  | 2 =>
    obtain rfl : p.S = q := by simpa [Prg.pieces] using h
    rw [show p.front ++ (p.T.l ++ (p.D.l ++ (p.S.l ++ (p.P.l ++ (p.Q.l ++ []))))) = ((p.front ++ p.T.l) ++ p.D.l) ++ (p.S.l ++ (p.P.l ++ (p.Q.l ++ []))) by simp [List.append_assoc]]
    exact drop_take_at _ _ _ _ (by simp [offAt, Prg.lens, hf])
  | 3 =>
    obtain rfl : p.P = q := by simpa [Prg.pieces] using h
    rw [show p.front ++ (p.T.l ++ (p.D.l ++ (p.S.l ++ (p.P.l ++ (p.Q.l ++ []))))) = (((p.front ++ p.T.l) ++ p.D.l) ++ p.S.l) ++ (p.P.l ++ (p.Q.l ++ [])) by simp [List.append_assoc]]
    exact drop_take_at _ _ _ _ (by simp [offAt, Prg.lens, hf])
  | 4 =>
    obtain rfl : p.Q = q := by simpa [Prg.pieces] using h
    rw [show p.front ++ (p.T.l ++ (p.D.l ++ (p.S.l ++ (p.P.l ++ (p.Q.l ++ []))))) = ((((p.front ++ p.T.l) ++ p.D.l) ++ p.S.l) ++ p.P.l) ++ (p.Q.l ++ []) by simp [List.append_assoc]]
    exact drop_take_at _ _ _ _ (by simp [offAt, Prg.lens, hf])
  | j + 5 => simp [Prg.pieces] at h
theorem Prg.bytes_length (p : Prg) : p.bytes.length = p.hdr + (p.T.l.length + (p.D.l.length + (p.S.l.length + (p.P.l.length + p.Q.l.length)))) := by
  rw [← p.front_len]
  unfold Prg.bytes
  simp [List.length_append]
end Go.Proofs.YtpdjolkbjcdimaaDoor
