/- bytes.NewReader and (*bytes.Reader).Read: what each computes. -/
import Derived.Test.YtpdjolkbjcdimaaDoorChecked
import Derived.Test.YtpdjolkbjcdimaaDoorMem
import Derived.Deep.QuietTactic
import Derived.BigQuiet
import Derived.WalkSpells
import Derived.StillTailTactics
import Derived.LaidEql
namespace Go.Proofs.YtpdjolkbjcdimaaDoor
open Go.RowKit

theorem wpList_copy_go {P : Program} (w : World) {ops : Array Oper} {rest : List Oper} {o : Oper} {a : Act} {Q : Exit → Act → World → Prop} (hgd : o.guard = none) (d s : Operand) (t t' : TypeId)
    (ho : o.op = .call { callee := .builtin .copy, args := #[d, s], argTypes := #[t, t'] }) (v u : Value) (hd : a.eval d = v) (hs : a.eval s = u) {v' : Value} {w' : World}
    (hr : (Builtin.copy_ #[t, t'] o.type #[v, u]).run P w = .ok v' w') (h : wpList P ops Q rest (a.put o.dst v') w') : wpList P ops Q (o :: rest) a w :=
  wpList_plain hgd fun _ hK => by
    unfold Oper.wp execOp
    simp only [ho, resolve, invoke, builtin, Sem.run_bind, Sem.run_pure, Result.andThen_ok, List.map_toArray, List.map_cons, List.map_nil, hd, hs, hr]
    exact hK _ _ h

theorem newReader_any (A : Option Addr) (n c : Nat) (w : World) :
    Calls Tryd.prog 36 #[.slice A n c] w fun e w' => e = .returned (.pointer (some ⟨w.heap.size, 0, none⟩)) ∧ w' = w.alloc (.cells #[.slice A n c, .int .i64 0, .int .i64 (-1)] 112) := by
  go_enter Tryd.func36, Tryd.ntmps36
  go_wp2
  go_ret
  exact ⟨by simp, rfl⟩

/-- At its end the reader says EOF, and nothing turns. -/
theorem read_end (gr n c i : Nat) (p eof : Value) (A : Option Addr) (buf : Value) (w : World) (hr : Blk w gr 112 #[.slice A n c, .int .i64 (i : Nat), p]) (hi : n ≤ i)
    (hE : w.cell? ⟨2, 0, none⟩ = some eof) :
    Calls Tryd.prog 75 #[.pointer (some ⟨gr, 0, none⟩), buf] w fun e w' => e = .returned (.tuple #[.int .i64 0, eof]) ∧ ∃ k, w' = w.drewN k := by
  have c0 := hr.cell 0
  have c1 := hr.cell 1
  simp only [List.getElem?_toArray, List.getElem?_cons_zero, List.getElem?_cons_succ] at c0 c1
  have hge : (n : Int) ≤ (i : Int) := by omega
  go_enter Tryd.func75, Tryd.ntmps75
  go_wp2
  go_quiet (fail)
  go_wp2
  go_quiet (fail)
  go_wp2
  go_ret2
  exact ⟨by simp, _, World.drewN_drewN _ _ _⟩

set_option maxRecDepth 100000 in
set_option maxHeartbeats 400000 in
theorem read_some (gr gb k m cm i c tb : Nat) (pv : Int) (A : Option Addr) (l : List UInt8) (cur : Array Value) (w : World)
    (hr : Blk w gr 112 #[.slice A l.length c, .int .i64 (i : Nat), .int .i64 pv]) (hb : Bs w A l) (hg : Blk w gb tb cur)
    (hne : gr ≠ gb) (hA : ∀ b o, A = some ⟨b, o, none⟩ → b ≠ gr) (hi : i < l.length) (hc : l.length ≤ c) (hm : c ≤ maxLen) (hfit : k + m ≤ cur.size) :
    Calls Tryd.prog 75 #[.pointer (some ⟨gr, 0, none⟩), .slice (some ⟨gb, k, none⟩) m cm] w fun e w' =>
      e = .returned (.tuple #[.int .i64 (Nat.min (l.length - i) m : Nat), .nilIface]) ∧
      Blk w' gb tb (cur.toList.take k ++ bvs ((l.drop i).take m) ++ cur.toList.drop (k + Nat.min (l.length - i) m)).toArray ∧
      Blk w' gr 112 #[.slice A l.length c, .int .i64 (i + Nat.min (l.length - i) m : Nat), .int .i64 (-1)] ∧ Keeps (fun j => j = gb ∨ j = gr) w w' := by
  obtain ⟨b, o, rfl, hbl, hcell⟩ := hb.at_ hi
  have hbr := hA b o rfl
  have hd := Bs.from_ hcell hbl i
  unfold maxLen at hm
  have c0 := hr.cell 0
  have c1 := hr.cell 1
  have c2 := hr.cell 2
  have f0 := hr.frozen 0
  have f1 := hr.frozen 1
  have f2 := hr.frozen 2
  simp only [List.getElem?_toArray, List.getElem?_cons_zero, List.getElem?_cons_succ] at c0 c1 c2
  have hlt : ¬ (l.length : Int) ≤ (i : Int) := by omega
  go_enter Tryd.func75, Tryd.ntmps75
  go_wp2
  go_quiet (fail)
  go_wp2
  have hr1 := (hr.drewN nq).set_ 2 (.int .i64 (-1))
  have hg1 := (hg.drewN nq).far (p := ⟨gr, 2, none⟩) (fun e => hne e.symm) (.int .i64 (-1))
  have hK1 : Keeps (fun j => j = gb ∨ j = gr) w ((w.drewN nq).setCell ⟨gr, 2, none⟩ (.int .i64 (-1))) := ((Keeps.refl _ w).drewN nq).setCell (fun _ => .inr rfl) _
  have hd1 : Bs ((w.drewN nq).setCell ⟨gr, 2, none⟩ (.int .i64 (-1))) (some ⟨b, o + i, none⟩) (l.drop i) :=
    hd.keep hK1.size (fun b' o' he _ => by
      injection he with he
      injection he with h1 h2
      subst h1
      exact Below.heap_setCell (w.drewN nq) ⟨gr, 2, none⟩ _ b hbr)
  clear c0 c1 c2 f0 f1 f2 hr hg hcell hb hd
  generalize (w.drewN nq).setCell ⟨gr, 2, none⟩ (.int .i64 (-1)) = w1 at *
  simp only [List.setIfInBounds_toArray, List.set_cons_succ, List.set_cons_zero] at hr1
  have c0 := hr1.cell 0
  have c1 := hr1.cell 1
  have f1 := hr1.frozen 1
  simp only [List.getElem?_toArray, List.getElem?_cons_zero, List.getElem?_cons_succ] at c0 c1
  have hle : i ≤ l.length := by omega
  have hcne : ¬ c = i := by omega
  refine wp_region_still_tail 10 (by kernel_rfl) (by kernel_rfl) ?_
  change wpStill _ _ w1.drew (fun a' => wpList _ _ _ _ a' w1.drew) _ _
  simp only [List.take_succ_cons, List.take_zero, List.drop_succ_cons, List.drop_zero]
  repeat still_step
  refine wpStill_nil ?_
  have hcopy := run_copy_bs (P := Tryd.prog) (w := w1.drew) 22 22 3 5 gb k m cm (some ⟨b, o + i, none⟩) (l.length - i) (c - i) cur tb (l.drop i) Tryd.underlying22 (by kernel_rfl) hg1 hd1 (by simp) hfit
  have hg2 : Blk (w1.drew.setRow gb (cur.toList.take k ++ bvs ((l.drop i).take m) ++ cur.toList.drop (k + Nat.min (l.length - i) m)).toArray) gb tb _ := setRow_heap w1.drew gb cur _ tb _ hg1
  have hr2 : Blk (w1.drew.setRow gb (cur.toList.take k ++ bvs ((l.drop i).take m) ++ cur.toList.drop (k + Nat.min (l.length - i) m)).toArray) gr _ _ := (setRow_other w1.drew gb gr _ hne).trans hr1
  have hK2 : Keeps (fun j => j = gb ∨ j = gr) w (w1.drew.setRow gb (cur.toList.take k ++ bvs ((l.drop i).take m) ++ cur.toList.drop (k + Nat.min (l.length - i) m)).toArray) :=
    (hK1.drew).step (T := fun j => j = gb) ⟨rfl, rfl, rfl, by simp [World.setRow], fun j _ hj => setRow_other w1.drew gb j _ hj⟩ (fun j _ hj => .inl hj)
  have hn1 : Nat.min (l.length - i) m ≤ l.length - i := Nat.min_le_left _ _
  generalize hnn : Nat.min (l.length - i) m = n at *
  have HN := Lib.hid hnn
  clear hnn
  generalize w1.drew.setRow gb (cur.toList.take k ++ bvs ((l.drop i).take m) ++ cur.toList.drop (k + n)).toArray = w2 at hcopy hg2 hr2 hK2
  have d1 := hr2.cell 1
  have g1 := hr2.frozen 1
  simp only [List.getElem?_toArray, List.getElem?_cons_zero, List.getElem?_cons_succ] at d1
  have hsum : (i : Int) + (n : Int) ≤ 9223372036854775807 := by omega
  clear c0 c1 f1 hr1 hg1 hK1 hd1
  go_wp2_with (with_reducible refine wpList_copy_go _ rfl (.tmp 20) (.tmp 29) 22 22 rfl _ _ rfl rfl hcopy ?_)
  go_ret2
  have hr3 := hr2.set_ 1 (.int .i64 ((i + n : Nat) : Int))
  simp only [List.setIfInBounds_toArray, List.set_cons_succ, List.set_cons_zero] at hr3
  rw [HN.out]
  exact ⟨by simp, hg2.far (p := ⟨gr, 1, none⟩) (fun e => hne e.symm) _, hr3, hK2.setCell (fun _ => .inr rfl) _⟩
end Go.Proofs.YtpdjolkbjcdimaaDoor
