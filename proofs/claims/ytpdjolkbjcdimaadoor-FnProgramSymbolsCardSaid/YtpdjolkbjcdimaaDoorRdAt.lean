/- (*bytes.Reader).ReadAt where there are bytes enough; io.NewSectionReader. -/
import Derived.Test.YtpdjolkbjcdimaaDoorReader
import Derived.Test.YtpdjolkbjcdimaaDoorFull
namespace Go.Proofs.YtpdjolkbjcdimaaDoor
open Go.RowKit

set_option maxRecDepth 100000 in
set_option maxHeartbeats 400000 in
theorem rdAt_all (gr gb m cm off c tb : Nat) (x y : Value) (A : Option Addr) (l : List UInt8) (cur : Array Value) (w : World)
    (hr : Blk w gr 112 #[.slice A l.length c, x, y]) (hb : Bs w A l) (hg : Blk w gb tb cur)
    (hi : off + m ≤ l.length) (h0 : 0 < m) (hc : l.length ≤ c) (hfit : m = cur.size) :
    Calls Tryd.prog 76 #[.pointer (some ⟨gr, 0, none⟩), .slice (some ⟨gb, 0, none⟩) m cm, .int .i64 (off : Nat)] w fun e w' =>
      e = .returned (.tuple #[.int .i64 (m : Nat), .nilIface]) ∧ Blk w' gb tb (bvs ((l.drop off).take m)).toArray ∧ Keeps (fun j => j = gb) w w' := by
  obtain ⟨b, o, rfl, hbl, hcell⟩ := hb.at_ (show off < l.length by omega)
  have hd := Bs.from_ hcell hbl off
  have c0 := hr.cell 0
  simp only [List.getElem?_toArray, List.getElem?_cons_zero] at c0
  have hlt : ¬ (l.length : Int) ≤ (off : Int) := by omega
  have hlt0 : ¬ (off : Int) < 0 := by omega
  have hle : off ≤ l.length := by omega
  have hcne : ¬ c = off := by omega
  have hcopy := run_copy_bs (P := Tryd.prog) (w := w) 22 22 3 5 gb 0 m cm (some ⟨b, o + off, none⟩) (l.length - off) (c - off) cur tb (l.drop off) Tryd.underlying22 (by kernel_rfl) hg hd (by simp) (by omega)
  have hg2 : Blk (w.setRow gb (cur.toList.take 0 ++ bvs ((l.drop off).take m) ++ cur.toList.drop (0 + Nat.min (l.length - off) m)).toArray) gb tb _ := setRow_heap w gb cur _ tb _ hg
  have hK2 : Keeps (fun j => j = gb) w (w.setRow gb (cur.toList.take 0 ++ bvs ((l.drop off).take m) ++ cur.toList.drop (0 + Nat.min (l.length - off) m)).toArray) :=
    ⟨rfl, rfl, rfl, by simp [World.setRow], fun j _ hj => setRow_other w gb j _ hj⟩
  have hmin : Nat.min (l.length - off) m = m := Nat.min_eq_right (by omega)
  have hdn : cur.toList.drop (0 + m) = [] := List.drop_eq_nil_of_le (by simp; omega)
  rw [hmin, hdn, List.take_zero, List.nil_append, List.append_nil] at hcopy hg2 hK2
  generalize w.setRow gb (bvs ((l.drop off).take m)).toArray = w2 at hcopy hg2 hK2
  have HG := Lib.hid (show _ ∧ _ from ⟨hg2, hK2⟩)
  clear hg2 hK2 hr hg hcell hb hd hmin hdn hfit
  go_enter Tryd.func76, Tryd.ntmps76
  go_wp2_with (with_reducible refine wpList_copy_go _ rfl (.tmp 19) (.tmp 25) 22 22 rfl _ _ rfl rfl hcopy ?_)
  go_ret2
  exact ⟨by simp, HG.out⟩

theorem newSection_any (p : Addr) (off n : Nat) (w : World) (h : off + n ≤ 9223372036854775807) :
    Calls Tryd.prog 45 #[.iface 95 (.pointer (some p)), .int .i64 (off : Nat), .int .i64 (n : Nat)] w fun e w' => e = .returned (.pointer (some ⟨w.heap.size, 0, none⟩)) ∧
      w' = w.alloc (.cells #[.iface 95 (.pointer (some p)), .int .i64 (off : Nat), .int .i64 (off : Nat), .int .i64 ((n : Int) + (off : Int)), .int .i64 (n : Nat)] 140) := by
  have h1 : (off : Int) ≤ 9223372036854775807 - (n : Int) := by omega
  go_enter Tryd.func45, Tryd.ntmps45
  go_wp2_with fail
  go_ret
  exact ⟨by simp, rfl⟩
end Go.Proofs.YtpdjolkbjcdimaaDoor
