/- io.ReadFull from a bytes.Reader: where there are bytes enough it fills the buffer; else it returns an error. -/
import Derived.Test.YtpdjolkbjcdimaaDoorReader
import Derived.LoopN
import Derived.Deep.RegionWith
namespace Go.Proofs.YtpdjolkbjcdimaaDoor
open Go.RowKit

theorem nilAhead_read (n : Nat) (a : Addr) (w : World) : (nilAhead (n + 1) 95 (.pointer (some a)) "Read").run Tryd.prog w = .ok (some false) w := by kernel_rfl
theorem method_read (n : Nat) (a : Addr) (w : World) : (method (n + 1) 95 (.pointer (some a)) "Read").run Tryd.prog w = .ok (75, .pointer (some a)) w := by kernel_rfl

theorem read_all (gr gb m cm i c tb : Nat) (pv : Int) (A : Option Addr) (l : List UInt8) (cur : Array Value) (w : World)
    (hr : Blk w gr 112 #[.slice A l.length c, .int .i64 (i : Nat), .int .i64 pv]) (hb : Bs w A l) (hg : Blk w gb tb cur)
    (hne : gr ≠ gb) (hA : ∀ b o, A = some ⟨b, o, none⟩ → b ≠ gr) (hi : i + m ≤ l.length) (h0 : 0 < m) (hc : l.length ≤ c) (hm : c ≤ maxLen) (hfit : m = cur.size) :
    Calls Tryd.prog 75 #[.pointer (some ⟨gr, 0, none⟩), .slice (some ⟨gb, 0, none⟩) m cm] w fun e w' =>
      e = .returned (.tuple #[.int .i64 (m : Nat), .nilIface]) ∧ Blk w' gb tb (bvs ((l.drop i).take m)).toArray ∧
      Blk w' gr 112 #[.slice A l.length c, .int .i64 (i + m : Nat), .int .i64 (-1)] ∧ Keeps (fun j => j = gb ∨ j = gr) w w' := by
  have hmin : Nat.min (l.length - i) m = m := Nat.min_eq_right (by omega)
  refine (read_some gr gb 0 m cm i c tb pv A l cur w hr hb hg hne hA (by omega) hc hm (by omega)).mono fun e w' ⟨h1, h2, h3, h4⟩ => ?_
  rw [hmin] at h1 h2 h3
  refine ⟨h1, ?_, h3, h4⟩
  have hd : cur.toList.drop (0 + m) = [] := List.drop_eq_nil_of_le (by simp; omega)
  rw [hd, List.take_zero, List.nil_append, List.append_nil] at h2
  exact h2

set_option maxRecDepth 100000 in
set_option maxHeartbeats 400000 in
theorem atLeast_ok (gr gb N i c tb : Nat) (pv : Int) (A : Option Addr) (l : List UInt8) (cur : Array Value) (w : World)
    (hr : Blk w gr 112 #[.slice A l.length c, .int .i64 (i : Nat), .int .i64 pv]) (hb : Bs w A l) (hg : Blk w gb tb cur)
    (hne : gr ≠ gb) (hA : ∀ b o, A = some ⟨b, o, none⟩ → b ≠ gr) (hi : i + N ≤ l.length) (hN : 0 < N) (hc : l.length ≤ c) (hm : c ≤ maxLen) (hfit : N = cur.size) :
    Calls Tryd.prog 53 #[.iface 95 (.pointer (some ⟨gr, 0, none⟩)), .slice (some ⟨gb, 0, none⟩) N N, .int .i64 (N : Nat)] w fun e w' =>
      e = .returned (.tuple #[.int .i64 (N : Nat), .nilIface]) ∧
      Blk w' gb tb (bvs ((l.drop i).take N)).toArray ∧
      Blk w' gr 112 #[.slice A l.length c, .int .i64 (i + N : Nat), .int .i64 (-1)] ∧ Keeps (fun j => j = gb ∨ j = gr) w w' := by
  have HF := Lib.hid hfit
  clear hfit
  have hm' := hm
  unfold maxLen at hm'
  go_enter Tryd.func53, Tryd.ntmps53
  go_wp2_with fail
  refine wp_loop_rounds 2 ?_
  rw [rounds_succ]
  go_wp2_with fail
  have hna := nilAhead_read
  have hme := method_read
  go_region_with (go_at_call 75; refine (read_all gr gb N N i c tb pv A l cur _ ?_ ?_ ?_ hne hA hi hN hc hm HF.out).mono ?_; exact hr; exact hb; exact hg; rintro e w1 ⟨rfl, hg1, hr1, hK1⟩)
  all_goals
    clear hr hb hg
    go_wp2_with fail
    rw [rounds_succ]
    go_wp2_with fail
  go_ret2
  exact ⟨by simp, hg1, hr1, ((Keeps.refl _ w).drew).trans hK1⟩

/-- io's two errors stand in their variables. -/
structure Eofs (w : World) : Prop where
  eof : ∃ a, w.cell? ⟨2, 0, none⟩ = some (.iface 122 (.pointer (some a)))
  unx : ∃ a, w.cell? ⟨1, 0, none⟩ = some (.iface 122 (.pointer (some a)))
theorem Eofs.keep {w w' : World} (h : Eofs w) (h1 : w'.heap[2]? = w.heap[2]?) (h2 : w'.heap[1]? = w.heap[1]?) : Eofs w' := by
  obtain ⟨⟨a, ha⟩, ⟨b, hb⟩⟩ := h
  exact ⟨⟨a, (World.cell?_of_block (w := w) (a := ⟨2, 0, none⟩) h1).trans ha⟩, ⟨b, (World.cell?_of_block (w := w) (a := ⟨1, 0, none⟩) h2).trans hb⟩⟩
theorem Eofs.keeps {w w' : World} {S : Nat → Prop} (h : Eofs w) (hK : Keeps S w w') (h1 : ¬ S 2) (h2 : ¬ S 1) : Eofs w' := by
  obtain ⟨⟨a, ha⟩, ⟨b, hb⟩⟩ := id h
  exact h.keep (hK.block _ (World.block_lt_of_cell? w _ ha) h1) (hK.block _ (World.block_lt_of_cell? w _ hb) h2)
theorem Eofs.drew {w : World} (h : Eofs w) : Eofs w.drew := h.keep rfl rfl
theorem Eofs.drewN {w : World} (h : Eofs w) (n : Nat) : Eofs (w.drewN n) := h.keep rfl rfl
theorem Eofs.below {w w' : World} (h : Eofs w) (hK : Below w.heap.size w w') : Eofs w' := h.keeps (Keeps.of_below hK (fun _ => False)) (fun h => h) (fun h => h)

set_option maxRecDepth 100000 in
set_option maxHeartbeats 400000 in
theorem atLeast_end (gr gb N i n c : Nat) (pv : Value) (A : Option Addr) (w : World)
    (hr : Blk w gr 112 #[.slice A n c, .int .i64 (i : Nat), pv]) (hE : Eofs w) (hi : n ≤ i) (hN : 0 < N) :
    Calls Tryd.prog 53 #[.iface 95 (.pointer (some ⟨gr, 0, none⟩)), .slice (some ⟨gb, 0, none⟩) N N, .int .i64 (N : Nat)] w fun e w' =>
      (∃ v u x, e = .returned (.tuple #[v, .iface u x])) ∧ ∃ k, w' = w.drewN k := by
  obtain ⟨ae, hae⟩ := hE.eof
  go_enter Tryd.func53, Tryd.ntmps53
  go_wp2_with fail
  refine wp_loop_rounds 2 ?_
  rw [rounds_succ]
  go_wp2_with fail
  have hna := nilAhead_read
  have hme := method_read
  go_region_with (go_at_call 75; refine (read_end gr n c i pv (.iface 122 (.pointer (some ae))) A _ _ ?_ hi ?_).mono ?_; exact hr; exact hae; rintro e w1 ⟨rfl, q, rfl⟩)
  go_wp2_with fail
  rw [rounds_succ]
  go_wp2_with fail
  go_ret2
  exact ⟨⟨_, _, _, rfl⟩, _, rfl⟩

theorem eq_eof (w : World) (a : Addr) : (binOp .eql 54 (.iface 122 (.pointer (some a))) (.iface 122 (.pointer (some a)))).run Tryd.prog w = .ok (.bool true) w := by
  have h1 : (Tryd.prog.info? 122).map (fun i => i.comparable) = some true := by kernel_rfl
  have h2 : (Tryd.prog.info? 124).map (fun i => i.comparable) = some true := by kernel_rfl
  cases q1 : Tryd.prog.info? 122 with
  | none => rw [q1] at h1; cases h1
  | some i =>
    cases q2 : Tryd.prog.info? 124 with
    | none => rw [q2] at h2; cases h2
    | some j =>
      rw [q1] at h1
      exact run_eql_iface_ptr_same (P := Tryd.prog) w a Tryd.underlying54 Tryd.underlying122 q1 (by simpa using h1) q2

theorem read_rest (gr gb m cm i c tb : Nat) (pv : Int) (A : Option Addr) (l : List UInt8) (cur : Array Value) (w : World) (hE : Eofs w)
    (hr : Blk w gr 112 #[.slice A l.length c, .int .i64 (i : Nat), .int .i64 pv]) (hb : Bs w A l) (hg : Blk w gb tb cur)
    (hne : gr ≠ gb) (hA : ∀ b o, A = some ⟨b, o, none⟩ → b ≠ gr) (h0 : i < l.length) (hi : l.length ≤ i + m) (hc : l.length ≤ c) (hm : c ≤ maxLen) (hfit : m = cur.size)
    (h1 : ¬ (2 = gb ∨ 2 = gr)) (h2 : ¬ (1 = gb ∨ 1 = gr)) :
    Calls Tryd.prog 75 #[.pointer (some ⟨gr, 0, none⟩), .slice (some ⟨gb, 0, none⟩) m cm] w fun e w' =>
      e = .returned (.tuple #[.int .i64 (l.length - i : Nat), .nilIface]) ∧ Eofs w' ∧
      Blk w' gr 112 #[.slice A l.length c, .int .i64 (l.length : Nat), .int .i64 (-1)] ∧ Keeps (fun j => j = gb ∨ j = gr) w w' := by
  have hmin : Nat.min (l.length - i) m = l.length - i := Nat.min_eq_left (by omega)
  refine (read_some gr gb 0 m cm i c tb pv A l cur w hr hb hg hne hA h0 hc hm (by omega)).mono fun e w' ⟨k1, k2, k3, k4⟩ => ?_
  rw [hmin] at k1 k3
  rw [show i + (l.length - i) = l.length by omega] at k3
  exact ⟨k1, hE.keeps k4 h1 h2, k3, k4⟩

set_option maxRecDepth 100000 in
set_option maxHeartbeats 800000 in
theorem atLeast_part (gr gb N i c tb : Nat) (pv : Int) (A : Option Addr) (l : List UInt8) (cur : Array Value) (w : World) (hE : Eofs w)
    (hr : Blk w gr 112 #[.slice A l.length c, .int .i64 (i : Nat), .int .i64 pv]) (hb : Bs w A l) (hg : Blk w gb tb cur)
    (hne : gr ≠ gb) (hA : ∀ b o, A = some ⟨b, o, none⟩ → b ≠ gr) (h0 : i < l.length) (hi : l.length < i + N) (hc : l.length ≤ c) (hm : c ≤ maxLen) (hN : N ≤ 140737488355328) (hfit : N = cur.size)
    (h1 : ¬ (2 = gb ∨ 2 = gr)) (h2 : ¬ (1 = gb ∨ 1 = gr)) :
    Calls Tryd.prog 53 #[.iface 95 (.pointer (some ⟨gr, 0, none⟩)), .slice (some ⟨gb, 0, none⟩) N N, .int .i64 (N : Nat)] w fun e w' =>
      (∃ v u x, e = .returned (.tuple #[v, .iface u x])) ∧ Keeps (fun j => j = gb ∨ j = gr) w w' := by
  have hm' := hm
  unfold maxLen at hm'
  have hna := nilAhead_read
  have hme := method_read
  have hi' : l.length ≤ i + N := by omega
  obtain ⟨rem, hrem⟩ : ∃ rem, l.length - i = rem := ⟨_, rfl⟩
  have r0 : 0 < rem := by omega
  have r1 : rem < N := by omega
  have r2 : ¬ N = rem := by omega
  have HR := Lib.hid (fun W (hW : Eofs W) k1 k2 k3 => read_rest gr gb N N i c tb pv A l cur W hW k1 k2 k3 hne hA h0 hi' hc hm hfit h1 h2)
  rw [hrem] at HR
  have hq := eq_eof
  clear hfit hrem
  go_enter Tryd.func53, Tryd.ntmps53
  go_wp2_with fail
  refine wp_loop_rounds 3 ?_
  rw [rounds_succ]
  go_wp2_with fail
  go_region_with (go_at_call 75; refine (HR.out _ ?_ ?_ ?_ ?_).mono ?_; exact hE.drew; exact hr; exact hb; exact hg; rintro e w1 ⟨rfl, hE1, hr1, hK1⟩)
  have hK : Keeps (fun j => j = gb ∨ j = gr) w w1 := ((Keeps.refl _ w).drew).trans hK1
  clear hr hb hg HR hK1
  go_wp2_with fail
  rw [rounds_succ]
  go_wp2_with fail
  obtain ⟨ae, hae⟩ := hE1.eof
  obtain ⟨au, hau⟩ := hE1.unx
  go_region_with (go_at_call 75; refine (read_end gr l.length c l.length (.int .i64 (-1)) (.iface 122 (.pointer (some ae))) A _ _ ?_ (Nat.le_refl _) ?_).mono ?_; exact hr1; exact hae; rintro e w2 ⟨rfl, q, rfl⟩)
  all_goals
    go_wp2_with fail
    rw [rounds_succ]
    go_wp2_with fail
  all_goals
    go_ret2
    exact ⟨⟨_, _, _, rfl⟩, hK.drewN _⟩

theorem full_ok (gr gb N i c tb : Nat) (pv : Int) (A : Option Addr) (l : List UInt8) (cur : Array Value) (w : World)
    (hr : Blk w gr 112 #[.slice A l.length c, .int .i64 (i : Nat), .int .i64 pv]) (hb : Bs w A l) (hg : Blk w gb tb cur)
    (hne : gr ≠ gb) (hA : ∀ b o, A = some ⟨b, o, none⟩ → b ≠ gr) (hi : i + N ≤ l.length) (hN : 0 < N) (hc : l.length ≤ c) (hm : c ≤ maxLen) (hfit : N = cur.size) :
    Calls Tryd.prog 43 #[.iface 95 (.pointer (some ⟨gr, 0, none⟩)), .slice (some ⟨gb, 0, none⟩) N N] w fun e w' =>
      e = .returned (.tuple #[.int .i64 (N : Nat), .nilIface]) ∧
      Blk w' gb tb (bvs ((l.drop i).take N)).toArray ∧
      Blk w' gr 112 #[.slice A l.length c, .int .i64 (i + N : Nat), .int .i64 (-1)] ∧ Keeps (fun j => j = gb ∨ j = gr) w w' := by
  have HC := Lib.hid (atLeast_ok gr gb N i c tb pv A l cur w hr hb hg hne hA hi hN hc hm hfit)
  clear hr hb hg hfit
  go_enter Tryd.func43, Tryd.ntmps43
  go_wp2_with fail
  refine HC.out.mono ?_
  rintro e w1 ⟨rfl, h1, h2, h3⟩
  go_wp2_with fail
  go_ret2
  exact ⟨by simp, h1, h2, h3⟩

theorem full_short (gr gb N i c tb : Nat) (pv : Int) (A : Option Addr) (l : List UInt8) (cur : Array Value) (w : World) (hE : Eofs w)
    (hr : Blk w gr 112 #[.slice A l.length c, .int .i64 (i : Nat), .int .i64 pv]) (hb : Bs w A l) (hg : Blk w gb tb cur)
    (hne : gr ≠ gb) (hA : ∀ b o, A = some ⟨b, o, none⟩ → b ≠ gr) (hi : l.length < i + N) (hN0 : 0 < N) (hc : l.length ≤ c) (hm : c ≤ maxLen) (hN : N ≤ 140737488355328) (hfit : N = cur.size)
    (h1 : ¬ (2 = gb ∨ 2 = gr)) (h2 : ¬ (1 = gb ∨ 1 = gr)) :
    Calls Tryd.prog 43 #[.iface 95 (.pointer (some ⟨gr, 0, none⟩)), .slice (some ⟨gb, 0, none⟩) N N] w fun e w' =>
      (∃ v u x, e = .returned (.tuple #[v, .iface u x])) ∧ Keeps (fun j => j = gb ∨ j = gr) w w' := by
  have HC : Hid (Calls Tryd.prog 53 #[.iface 95 (.pointer (some ⟨gr, 0, none⟩)), .slice (some ⟨gb, 0, none⟩) N N, .int .i64 (N : Nat)] w fun e w' =>
      (∃ v u x, e = .returned (.tuple #[v, .iface u x])) ∧ Keeps (fun j => j = gb ∨ j = gr) w w') := by
    refine Lib.hid ?_
    by_cases h0 : i < l.length
    · exact atLeast_part gr gb N i c tb pv A l cur w hE hr hb hg hne hA h0 hi hc hm hN hfit h1 h2
    · exact (atLeast_end gr gb N i l.length c (.int .i64 pv) A w hr hE (by omega) hN0).mono fun e w' ⟨k1, q, k2⟩ => ⟨k1, by rw [k2]; exact (Keeps.refl _ w).drewN q⟩
  clear hr hb hg hfit hE
  go_enter Tryd.func43, Tryd.ntmps43
  go_wp2_with fail
  refine HC.out.mono ?_
  rintro e w1 ⟨⟨v, u, x, rfl⟩, h3⟩
  go_wp2_with fail
  go_ret2
  exact ⟨⟨_, _, _, rfl⟩, h3⟩
end Go.Proofs.YtpdjolkbjcdimaaDoor
