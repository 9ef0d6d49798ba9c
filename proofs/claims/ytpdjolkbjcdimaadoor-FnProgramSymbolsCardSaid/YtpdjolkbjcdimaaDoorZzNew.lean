/- plan9obj.ZZNewFile over a program's bytes: narrow and wide in one. -/
import Derived.Test.YtpdjolkbjcdimaaDoorNewF
namespace Go.Proofs.YtpdjolkbjcdimaaDoor
open Go.RowKit

/-- What the front of a program's bytes says. -/
structure Heads (l : List UInt8) (M T D B S E P Q hdr ptr load ENT : Nat) : Prop where
  m : bev l 0 4 = M
  t : bev l 4 4 = T
  d : bev l 8 4 = D
  b : bev l 12 4 = B
  s : bev l 16 4 = S
  e : bev l 20 4 = E
  p : bev l 24 4 = P
  q : bev l 28 4 = Q
  sum : 40 + (T + (D + (S + (P + Q)))) ≤ 1000000
  len : hdr ≤ l.length
  kind : (M = 35479 ∧ hdr = 40 ∧ ptr = 8 ∧ load = 2097152 ∧ bev ((l.drop 32).take 8) 0 8 = ENT) ∨ ((M = 491 ∨ M = 1607) ∧ hdr = 32 ∧ ptr = 4 ∧ load = 4096 ∧ E = ENT)

theorem newFile_any (gr c : Nat) (x y : Value) (A : Option Addr) (l : List UInt8) (w : World) (M T D B S E P Q hdr ptr load ENT : Nat)
    (hr : Blk w gr 112 #[.slice A l.length c, x, y]) (hb : Bs w A l) (hc : l.length ≤ c) (h : Heads l M T D B S E P Q hdr ptr load ENT) :
    Calls Tryd.prog 37 #[.iface 95 (.pointer (some ⟨gr, 0, none⟩))] w (NewOk gr hdr ptr load M B ENT [T, D, S, P, Q] w) := by
  have hlen := h.len
  rcases h.kind with ⟨k1, rfl, rfl, rfl, k2⟩ | ⟨k1, rfl, rfl, rfl, rfl⟩
  · exact newFile_wide gr c x y A l w M T D B S E P Q hr hb hc h.m h.t h.d h.b h.s h.e h.p h.q k1 ENT k2 hlen h.sum
  · exact newFile_narrow gr c x y A l w M T D B S E P Q hr hb hc h.m h.t h.d h.b h.s h.e h.p h.q k1 hlen h.sum

/-- What ZZNewFile hands back: the reader's block, and what NewFile hands back. -/
def ZNew (A : Option Addr) (n c hdr ptr load M B E : Nat) (sz : List Nat) (w : World) (e : Ending) (w' : World) : Prop := ∃ gf ga : Nat, e = .returned (.tuple #[.pointer (some ⟨gf, 0, none⟩), .nilIface]) ∧
  Blk w' gf 67 #[.int .u32 (M : Nat), .int .u32 (B : Nat), .int .u64 (E : Nat), .int .i64 (ptr : Nat), .int .u64 (load : Nat), .int .u64 (hdr : Nat), .slice (some ⟨ga, 0, none⟩) 5 5] ∧
  Sects w.heap.size w.heap.size ga hdr sz 5 w' ∧ Blk w' w.heap.size 112 #[.slice A n c, .int .i64 0, .int .i64 (-1)] ∧ w.heap.size ≤ gf ∧ w.heap.size ≤ ga ∧ Below w.heap.size w w'

theorem zzNew_any (c : Nat) (A : Option Addr) (l : List UInt8) (w : World) (M T D B S E P Q hdr ptr load ENT : Nat) (hb : Bs w A l) (hc : l.length ≤ c) (h : Heads l M T D B S E P Q hdr ptr load ENT) :
    Calls Tryd.prog 26 #[.slice A l.length c] w (ZNew A l.length c hdr ptr load M B ENT [T, D, S, P, Q] w) := by
  have HC := Lib.hid (newFile_any w.heap.size c (.int .i64 0) (.int .i64 (-1)) A l (w.alloc (.cells #[.slice A l.length c, .int .i64 0, .int .i64 (-1)] 112)) M T D B S E P Q hdr ptr load ENT (Blk.new _ _ _) (hb.alloc _) hc h)
  have HR := Lib.hid (newReader_any A l.length c w)
  clear hb h
  go_enter Tryd.func26, Tryd.ntmps26
  go_wp2_with fail
  refine HR.out.mono ?_
  rintro e w1 ⟨rfl, rfl⟩
  go_wp2_with fail
  refine HC.out.mono ?_
  rintro e w2 ⟨gf, ga, rfl, h1, h2, h3, h4, h5⟩
  have HH := Lib.hid (show _ ∧ _ ∧ _ ∧ _ ∧ _ from ⟨h1, h2, h3, h4, h5⟩)
  clear h1 h2 h3 h4 h5 HC HR
  go_wp2_with fail
  go_ret2
  have hsz : (w.alloc (.cells #[.slice A l.length c, .int .i64 0, .int .i64 (-1)] 112)).heap.size = w.heap.size + 1 := by simp
  obtain ⟨h1, h2, h3, h4, h5⟩ := HH.out
  rw [hsz] at h2 h3 h4
  exact ⟨gf, ga, by simp, h1, h2.lower (by omega), (Blk.new w _ _).keeps h5 (fun h => h), by omega, by omega, (((Keeps.refl (fun _ => False) w).alloc _).trans h5).below (Nat.le_refl _) (fun _ h => h.elim)⟩
end Go.Proofs.YtpdjolkbjcdimaaDoor
