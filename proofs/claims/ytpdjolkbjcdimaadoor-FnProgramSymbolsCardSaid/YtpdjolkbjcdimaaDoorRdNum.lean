/- readNumber of 64 bits from a SectionReader, into a cell of a block; parseMagic of a known number. -/
import Derived.Test.YtpdjolkbjcdimaaDoorReadS
namespace Go.Proofs.YtpdjolkbjcdimaaDoor
open Go.RowKit

theorem assert_u16 (a : Addr) (w : World) : (Instr.typeAssert (.iface 119 (.pointer (some a))) 20 141 true).run Tryd.prog w = .ok (.tuple #[.pointer none, .bool false]) w := by kernel_rfl
theorem assert_u32 (a : Addr) (w : World) : (Instr.typeAssert (.iface 119 (.pointer (some a))) 20 142 true).run Tryd.prog w = .ok (.tuple #[.pointer none, .bool false]) w := by kernel_rfl
theorem assert_u64 (a : Addr) (w : World) : (Instr.typeAssert (.iface 119 (.pointer (some a))) 20 119 true).run Tryd.prog w = .ok (.tuple #[.pointer (some a), .bool true]) w := by kernel_rfl

set_option maxRecDepth 100000 in
set_option maxHeartbeats 800000 in
theorem readNum_any (gs gr gf j tf base i c : Nat) (lim n : Int) (x y : Value) (old : Nat) (cs : Array Value) (A : Option Addr) (l : List UInt8) (w : World)
    (hf : Blk w gf tf cs) (hj : cs[j]? = some (.int .u64 old))
    (hs : Blk w gs 140 (srCells gr base i lim n)) (hr0 : Blk w gr 112 #[.slice A l.length c, x, y]) (hb : Bs w A l) (hne : gs ≠ gf)
    (hi : i + 8 ≤ l.length) (hc : l.length ≤ c) (hl1 : (i : Int) + 8 ≤ lim) (hl2 : lim ≤ 9223372036854775807) :
    Calls Tryd.prog 47 #[.iface 75 (.pointer (some ⟨gs, 0, none⟩)), .iface 119 (.pointer (some ⟨gf, j, none⟩))] w fun e w' =>
      e = .returned .nilIface ∧ Blk w' gf tf (cs.setIfInBounds j (.int .u64 (bev ((l.drop i).take 8) 0 8 : Nat))) ∧ Blk w' gs 140 (srCells gr base (i + 8) lim n) ∧ Keeps (fun k => k = gf ∨ k = gs) w w' := by
  have hmk : ∀ w : World, (Instr.makeSlice 22 (.int .i64 8) (.int .i64 8)).run Tryd.prog w = .ok (.slice (some ⟨w.heap.size, 0, none⟩) 8 8) (w.alloc (.cells #[.int .u8 0, .int .u8 0, .int .u8 0, .int .u8 0, .int .u8 0, .int .u8 0, .int .u8 0, .int .u8 0] 5)) := fun _ => by kernel_rfl
  have hgf := hf.lt
  have hgs := hs.lt
  have ha1 := assert_u16
  have ha2 := assert_u32
  have ha3 := assert_u64
  go_enter Tryd.func47, Tryd.ntmps47
  go_wp2_with fail
  refine (srFull_all gs gr w.heap.size base i 8 c 5 lim n x y A l #[.int .u8 0, .int .u8 0, .int .u8 0, .int .u8 0, .int .u8 0, .int .u8 0, .int .u8 0, .int .u8 0] _ (hs.alloc _) (hr0.alloc _) (hb.alloc _) (Blk.new _ _ _) (by omega) hi (by omega) hc rfl hl1 hl2).mono ?_
  rintro e w1 ⟨rfl, hg1, hs1, hK1'⟩
  have hf1 : Blk w1 gf tf cs := (hf.alloc _).keeps hK1' (fun h => by
    have h' : gf = w.heap.size ∨ gf = gs := h
    omega)
  have hK1 : Keeps (fun k => k = gf ∨ k = gs) w w1 := ((Keeps.refl _ w).alloc _).step hK1' (fun j hj hT => by
    have h' : j = w.heap.size ∨ j = gs := hT
    rcases h' with h' | h'
    · omega
    · exact .inr h')
  have hql : ((l.drop i).take 8).length = 8 := by simp; omega
  clear hmk hs hr0 hb hf hK1'
  generalize hq : (l.drop i).take 8 = q at hg1 hql ⊢
  have HL := Lib.hid hql
  clear hql
  generalize w.heap.size = gb at hg1 hgs hgf ⊢
  go_wp2_with fail
  refine (u64_l gb 0 _ _ q 0 _ (by omega) (by omega) (hg1.stand HL.out 0 8 (by omega))).mono ?_
  rintro e wx ⟨rfl, k1, rfl⟩
  have d0 := hf1.cell j
  rw [hj] at d0
  have e0 := hf1.frozen j
  go_wp2_with fail
  go_ret
  subst hq
  exact ⟨by simp, (hf1.drewN k1).set_ j _, (hs1.drewN k1).far (p := ⟨gf, j, none⟩) hne _, (hK1.drewN k1).setCell (p := ⟨gf, j, none⟩) (fun _ => .inl rfl) _⟩

set_option maxHeartbeats 800000 in
theorem parse_ok (gb : Nat) (q : List UInt8) (w : World) (h : Stand w gb 0 q 0 4) (m : Nat) (hm : bev q 0 4 = m) (hk : m = 491 ∨ m = 35479 ∨ m = 1607) :
    Calls Tryd.prog 46 #[.slice (some ⟨gb, 0, none⟩) 4 4] w fun e w' => e = .returned (.tuple #[.int .u32 (m : Nat), .nilIface]) ∧ ∃ k, w' = w.drewN k := by
  have HU := Lib.hid (u32_l gb 0 4 4 q 0 w (by omega) (by omega) h)
  rw [hm] at HU
  clear h hm
  rcases hk with rfl | rfl | rfl
  all_goals
    go_enter Tryd.func46, Tryd.ntmps46
    go_wp2_with fail
    refine HU.out.mono ?_
    rintro e w1 ⟨rfl, k1, rfl⟩
    clear HU
    go_wp2_with fail
    go_ret2
    exact ⟨by simp, k1, rfl⟩
end Go.Proofs.YtpdjolkbjcdimaaDoor
