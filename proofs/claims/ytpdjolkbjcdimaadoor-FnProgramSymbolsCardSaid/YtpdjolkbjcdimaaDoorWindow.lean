/- A block of bytes, read by places. -/
import Derived.Test.YtpdjolkbjcdimaaDoorBeX
import Derived.Test.YtpdjolkbjcdimaaDoorMem
namespace Go.Proofs.YtpdjolkbjcdimaaDoor
open Go.RowKit

theorem bev_one (q : List UInt8) (o : Nat) (h : o < q.length) : bev q o 1 = (q[o]?.getD 0).toNat := by
  rw [bev_succ q o 0 (by omega), bev_zero]; simp
theorem Blk.bs {w : World} {g t : Nat} {q : List UInt8} (h : Blk w g t (bvs q).toArray) : Bs w (some ⟨g, 0, none⟩) q := fun _ =>
  ⟨g, 0, rfl, h.lt, fun i hi => by rw [Nat.zero_add, h.cell i, List.getElem?_toArray, bvs_get q i hi]⟩
theorem Blk.stand {w : World} {g t N : Nat} {q : List UInt8} (h : Blk w g t (bvs q).toArray) (hq : q.length = N) (o k : Nat) (hk : o + k ≤ N) : Stand w g o q o k :=
  ⟨by omega, fun j hj => by rw [h.cell (o + j), List.getElem?_toArray, bvs_get q (o + j) (by omega)]⟩
theorem Blk.byte_in {w : World} {g t N : Nat} {q : List UInt8} (h : Blk w g t (bvs q).toArray) (hq : q.length = N) (o : Nat) (ho : o < N) : w.cell? ⟨g, o, none⟩ = some (.int .u8 (bev q o 1 : Nat)) := by
  rw [h.cell o, List.getElem?_toArray, bvs_get q o (by omega), bev_one q o (by omega)]
theorem eight_cells (q : List UInt8) (h : 8 ≤ q.length) : bvs (q.take (min 8 8)) = [.int .u8 (bev q 0 1 : Nat), .int .u8 (bev q 1 1 : Nat), .int .u8 (bev q 2 1 : Nat), .int .u8 (bev q 3 1 : Nat), .int .u8 (bev q 4 1 : Nat), .int .u8 (bev q 5 1 : Nat), .int .u8 (bev q 6 1 : Nat), .int .u8 (bev q 7 1 : Nat)] := by
  match q, h with
  | a0 :: a1 :: a2 :: a3 :: a4 :: a5 :: a6 :: a7 :: r, _ => simp [bvs, bev, be]
/-- Places inside a window of the bytes. -/
theorem bev_take (l : List UInt8) (N o k : Nat) (h : o + k ≤ N) : bev (l.take N) o k = bev l o k := by
  unfold bev
  rw [List.drop_take, List.take_take, Nat.min_eq_left (by omega)]
end Go.Proofs.YtpdjolkbjcdimaaDoor
