/- xcoff.ZZSectionHeader64: the struct of a reader over bytes, printed by program (gen/gen_zz.py). -/
import Derived.Test.YtjjpjobkdipahaaDoorReadSectionHeader64
import Derived.Test.YtjjpjobkdipahaaDoorWhole
namespace Go.Proofs.YtjjpjobkdipahaaDoor
open Go.RowKit

theorem info_SectionHeader64 : (Tryd.prog.info? 46).map (·.size) = some 18 := by kernel_rfl

set_option maxRecDepth 100000 in
set_option maxHeartbeats 1600000 in
theorem zz_SectionHeader64 (A : Option Addr) (l : List UInt8) (c : Nat) (w : World) (hb : Bs w A l) (hA : ∀ b o, A = some ⟨b, o, none⟩ → b < w.heap.size) (hi : 72 ≤ l.length) (hc : l.length ≤ c) (hm : c ≤ maxLen) :
    Calls Tryd.prog 18 #[.slice A l.length c] w fun e w' => e = .returned (.tuple #[.agg #[.int .u8 (bev l 0 1 : Nat), .int .u8 (bev l 1 1 : Nat), .int .u8 (bev l 2 1 : Nat), .int .u8 (bev l 3 1 : Nat), .int .u8 (bev l 4 1 : Nat), .int .u8 (bev l 5 1 : Nat), .int .u8 (bev l 6 1 : Nat), .int .u8 (bev l 7 1 : Nat), .int .u64 (bev l 8 8 : Nat), .int .u64 (bev l 16 8 : Nat), .int .u64 (bev l 24 8 : Nat), .int .u64 (bev l 32 8 : Nat), .int .u64 (bev l 40 8 : Nat), .int .u64 (bev l 48 8 : Nat), .int .u32 (bev l 56 4 : Nat), .int .u32 (bev l 60 4 : Nat), .int .u32 (bev l 64 4 : Nat), .int .u32 (bev l 68 4 : Nat)], .nilIface]) ∧ Below w.heap.size w w' := by
  go_enter Tryd.func18, Tryd.ntmps18
  go_wp2_with fail
  refine (newReader_any A l.length c _).mono ?_
  rintro e w1 ⟨rfl, rfl⟩
  go_wp2_with fail
  refine (read_SectionHeader64 (w.heap.size + 1) w.heap.size 0 c (-1) A l _ ((Blk.new w _ _).alloc _) (Blk.at_ _ _ _ (by simp)) ((hb.alloc _).alloc _) (by omega) (fun b o h => by have := hA b o h; omega) (by omega) hc hm).mono ?_
  rintro e w2 ⟨rfl, hv, _, hK⟩
  rw [List.drop_zero, bev_take l 72 0 1 (by omega), bev_take l 72 1 1 (by omega), bev_take l 72 2 1 (by omega), bev_take l 72 3 1 (by omega), bev_take l 72 4 1 (by omega), bev_take l 72 5 1 (by omega), bev_take l 72 6 1 (by omega), bev_take l 72 7 1 (by omega), bev_take l 72 8 8 (by omega), bev_take l 72 16 8 (by omega), bev_take l 72 24 8 (by omega), bev_take l 72 32 8 (by omega), bev_take l 72 40 8 (by omega), bev_take l 72 48 8 (by omega), bev_take l 72 56 4 (by omega), bev_take l 72 60 4 (by omega), bev_take l 72 64 4 (by omega), bev_take l 72 68 4 (by omega)] at hv
  have hkeep : Below w.heap.size w w2 := (((Below.refl _ _).alloc (Nat.le_refl _) _).alloc (by simp) _).trans (hK.below (by simp; omega) (fun i h => by omega))
  clear hb hA hK
  have hone : (#[.int .u8 (bev l 0 1 : Nat), .int .u8 (bev l 1 1 : Nat), .int .u8 (bev l 2 1 : Nat), .int .u8 (bev l 3 1 : Nat), .int .u8 (bev l 4 1 : Nat), .int .u8 (bev l 5 1 : Nat), .int .u8 (bev l 6 1 : Nat), .int .u8 (bev l 7 1 : Nat), .int .u64 (bev l 8 8 : Nat), .int .u64 (bev l 16 8 : Nat), .int .u64 (bev l 24 8 : Nat), .int .u64 (bev l 32 8 : Nat), .int .u64 (bev l 40 8 : Nat), .int .u64 (bev l 48 8 : Nat), .int .u32 (bev l 56 4 : Nat), .int .u32 (bev l 60 4 : Nat), .int .u32 (bev l 64 4 : Nat), .int .u32 (bev l 68 4 : Nat)] : Array Value).all (·.oneCell') = true := by simp [Value.oneCell']
  have HI : (Tryd.prog.info? 46).map (·.size) = some (#[.int .u8 (bev l 0 1 : Nat), .int .u8 (bev l 1 1 : Nat), .int .u8 (bev l 2 1 : Nat), .int .u8 (bev l 3 1 : Nat), .int .u8 (bev l 4 1 : Nat), .int .u8 (bev l 5 1 : Nat), .int .u8 (bev l 6 1 : Nat), .int .u8 (bev l 7 1 : Nat), .int .u64 (bev l 8 8 : Nat), .int .u64 (bev l 16 8 : Nat), .int .u64 (bev l 24 8 : Nat), .int .u64 (bev l 32 8 : Nat), .int .u64 (bev l 40 8 : Nat), .int .u64 (bev l 48 8 : Nat), .int .u32 (bev l 56 4 : Nat), .int .u32 (bev l 60 4 : Nat), .int .u32 (bev l 64 4 : Nat), .int .u32 (bev l 68 4 : Nat)] : Array Value).size := info_SectionHeader64
  generalize hcs : (#[.int .u8 (bev l 0 1 : Nat), .int .u8 (bev l 1 1 : Nat), .int .u8 (bev l 2 1 : Nat), .int .u8 (bev l 3 1 : Nat), .int .u8 (bev l 4 1 : Nat), .int .u8 (bev l 5 1 : Nat), .int .u8 (bev l 6 1 : Nat), .int .u8 (bev l 7 1 : Nat), .int .u64 (bev l 8 8 : Nat), .int .u64 (bev l 16 8 : Nat), .int .u64 (bev l 24 8 : Nat), .int .u64 (bev l 32 8 : Nat), .int .u64 (bev l 40 8 : Nat), .int .u64 (bev l 48 8 : Nat), .int .u32 (bev l 56 4 : Nat), .int .u32 (bev l 60 4 : Nat), .int .u32 (bev l 64 4 : Nat), .int .u32 (bev l 68 4 : Nat)] : Array Value) = cs at hv hone HI ⊢
  have HC := Lib.hid hcs
  have HH := Lib.hid hone
  have HJ := Lib.hid HI
  clear hcs hone HI
  go_wp2_with (first
    | (with_reducible refine wpList_load_whole hv 46 _ Tryd.underlying46 rfl HJ.out rfl _ rfl rfl ?_)
    | (with_reducible refine wpList_store_same hv HH.out 46 HJ.out rfl _ _ rfl rfl rfl ?_))
  refine bodyPost_ret (v := .tuple #[.agg cs, .nilIface]) (by exact results_whole_tmp (fn := Tryd.f18) (p := 2) (q := 3) (ty := 46) rfl _ hv _ rfl Tryd.underlying46 rfl HJ.out) rfl ⟨by rw [HC.out], hkeep⟩

set_option maxRecDepth 100000 in
set_option maxHeartbeats 1600000 in
theorem zzs_SectionHeader64 (A : Option Addr) (l : List UInt8) (c : Nat) (w : World) (hE : Eofs w) (hb : Bs w A l) (hA : ∀ b o, A = some ⟨b, o, none⟩ → b < w.heap.size) (hi : l.length < 72) (hc : l.length ≤ c) (hm : c ≤ maxLen) :
    Calls Tryd.prog 18 #[.slice A l.length c] w fun e w' => (∃ u x, e = .returned (.tuple #[.agg #[.int .u8 0, .int .u8 0, .int .u8 0, .int .u8 0, .int .u8 0, .int .u8 0, .int .u8 0, .int .u8 0, .int .u64 0, .int .u64 0, .int .u64 0, .int .u64 0, .int .u64 0, .int .u64 0, .int .u32 0, .int .u32 0, .int .u32 0, .int .u32 0], .iface u x])) ∧ Below w.heap.size w w' := by
  have hge : 1 < w.heap.size := by obtain ⟨a, ha⟩ := hE.eof; exact World.block_lt_of_cell? w _ ha
  have hgu : 2 < w.heap.size := by obtain ⟨a, ha⟩ := hE.unx; exact World.block_lt_of_cell? w _ ha
  go_enter Tryd.func18, Tryd.ntmps18
  go_wp2_with fail
  refine (newReader_any A l.length c _).mono ?_
  rintro e w1 ⟨rfl, rfl⟩
  go_wp2_with fail
  refine (short_SectionHeader64 (w.heap.size + 1) w.heap.size 0 c (-1) A l _ (hE.keep ((Below.heap_alloc _ _ _ (by simp; omega)).trans (Below.heap_alloc _ _ _ hge)) ((Below.heap_alloc _ _ _ (by simp; omega)).trans (Below.heap_alloc _ _ _ hgu))) ((Blk.new w _ _).alloc _) (Blk.at_ _ _ _ (by simp)) ((hb.alloc _).alloc _) (fun b o h => by have := hA b o h; omega) (by omega) hc hm (by omega) (by omega)).mono ?_
  rintro e w2 ⟨⟨u, x, rfl⟩, hK⟩
  have hv : Blk w2 w.heap.size 46 _ := ((Blk.new w _ _).alloc _).keeps hK (by omega)
  have hkeep : Below w.heap.size w w2 := (((Below.refl _ _).alloc (Nat.le_refl _) _).alloc (by simp) _).trans (hK.below (by simp; omega) (fun i h => by omega))
  clear hb hA hK hE
  have hone : (#[.int .u8 0, .int .u8 0, .int .u8 0, .int .u8 0, .int .u8 0, .int .u8 0, .int .u8 0, .int .u8 0, .int .u64 0, .int .u64 0, .int .u64 0, .int .u64 0, .int .u64 0, .int .u64 0, .int .u32 0, .int .u32 0, .int .u32 0, .int .u32 0] : Array Value).all (·.oneCell') = true := by simp [Value.oneCell']
  have HI : (Tryd.prog.info? 46).map (·.size) = some (#[.int .u8 0, .int .u8 0, .int .u8 0, .int .u8 0, .int .u8 0, .int .u8 0, .int .u8 0, .int .u8 0, .int .u64 0, .int .u64 0, .int .u64 0, .int .u64 0, .int .u64 0, .int .u64 0, .int .u32 0, .int .u32 0, .int .u32 0, .int .u32 0] : Array Value).size := info_SectionHeader64
  generalize hcs : (#[.int .u8 0, .int .u8 0, .int .u8 0, .int .u8 0, .int .u8 0, .int .u8 0, .int .u8 0, .int .u8 0, .int .u64 0, .int .u64 0, .int .u64 0, .int .u64 0, .int .u64 0, .int .u64 0, .int .u32 0, .int .u32 0, .int .u32 0, .int .u32 0] : Array Value) = cs at hv hone HI ⊢
  have HC := Lib.hid hcs
  have HH := Lib.hid hone
  have HJ := Lib.hid HI
  clear hcs hone HI
  go_wp2_with (first
    | (with_reducible refine wpList_load_whole hv 46 _ Tryd.underlying46 rfl HJ.out rfl _ rfl rfl ?_)
    | (with_reducible refine wpList_store_same hv HH.out 46 HJ.out rfl _ _ rfl rfl rfl ?_))
  refine bodyPost_ret (v := .tuple #[.agg cs, .iface u x]) (by exact results_whole_tmp (fn := Tryd.f18) (p := 2) (q := 3) (ty := 46) rfl _ hv _ rfl Tryd.underlying46 rfl HJ.out) rfl ⟨⟨u, x, by rw [HC.out]⟩, hkeep⟩
end Go.Proofs.YtjjpjobkdipahaaDoor
