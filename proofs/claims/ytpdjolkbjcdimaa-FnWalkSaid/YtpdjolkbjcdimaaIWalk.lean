/- impl.Walk over a table that was written: values, kinds, names. -/
import Derived.Test.YtpdjolkbjcdimaaZzWalk
import Derived.Test.YtpdjolkbjcdimaaCopied
import Derived.Defers
import Derived.Recover
namespace Go.Proofs.Ytpdjolkbjcdimaa
open Go.RowKit

theorem catch_Walk (p q r s : Addr) (w : World) :
    CallsD Try.prog 13 #[.pointer (some p), .pointer (some q), .pointer (some r), .pointer (some s)] .returning w fun e u' w' => e = .returned (.tuple #[]) ∧ u' = .returning ∧ w' = w := by
  refine callsD_of_wpS Try.func13 rfl fun c₀ cs hu => ?_
  apply wpS_seq
  apply wpS_region
  simp [wpOpsS, go_sem, recoverD, hu, Try.ntmps13, Exit.thenS]
  refine wpS_cond (t := false) (by simp [Act.eval, Array.replicate]) ?_
  simp only [Bool.false_eq_true, if_false]
  refine wpS_of_wp (wp_skip ?_)
  cases c₀
  simp_all [bodyPostS, results, Try.results13]

theorem own_cell {w : World} {base e n : Nat} {A : Option Addr} {c : Nat} {ys : List Value} (h : w.ownsRow base e 1 (.slice A n c) n ys) {i : Nat} {u : Value} (hu : ys[i]? = some u) :
    ∃ b, A = some ⟨b, 0, none⟩ ∧ base ≤ b ∧ b < w.heap.size ∧ w.cell? ⟨b, i, none⟩ = some u := by
  have hlt := (List.getElem?_eq_some_iff.1 hu).1
  have h1 := h.1
  rcases h.2 with ⟨hv, h0⟩ | ⟨g, cap, cur, hv, hb, hg, hnc, hcm, hcs, htake⟩
  · omega
  · injection hv with e1 e2 e3
    refine ⟨g, e1, hb, (Array.getElem?_eq_some_iff.1 hg).1, ?_⟩
    rw [cell_of_row w g _ cur e (0, 0) hg]
    rw [← htake, List.getElem?_take, if_pos (by omega)] at hu
    simpa using hu

theorem Eff.none_ {w w' : World} (h : Below w.heap.size w w') : Eff none w w' := Keeps.of_below h _
theorem doesAt_mono {P : Program} {ops : Array Oper} {p p0 : Job} {a : Act} {w : World} (h : p0.doesAt P ops a w) (hi : p0.i = p.i) (he : p0.eff = p.eff) (hp : ∀ v w', p0.eff w w' → p0.post v w' → p.post v w') : p.doesAt P ops a w := fun o ho => by
  obtain ⟨hw, hu⟩ := h o (hi ▸ ho)
  refine ⟨hw, ?_⟩
  rw [← he]
  generalize (execOp a.eval o).run P w = r at hu ⊢
  cases r with
  | halt x w' => simp only [doesUpon] at hu
  | ok n w' =>
    cases n <;> simp only [doesUpon] at hu ⊢
    case value v => exact ⟨hu.1, hp _ _ hu.1 hu.2⟩
    case skip => exact ⟨hu.1, hp _ _ hu.1 hu.2⟩
    case enter f args => exact ⟨hu.1, hu.2.mono fun e w'' ⟨v, he', h1, h2⟩ => ⟨v, he', h1, hp _ _ h1 h2⟩⟩
/-- A copy of all onto nil, as a job. -/
theorem does_appends {P : Program} {ops : Array Oper} {p : Job} {a : Act} {w : World} {o : Oper} (i : Nat) (hi : p.i = i) (ho : ops[i]? = some o) (hw : Region.wanted o (yielded ops a.tmps) = true) (x : Operand) (t : TypeId)
    (hop : o.op = .call { callee := .builtin .append, args := #[.const (.slice none 0 0), x], argTypes := #[t, t] })
    (e : TypeId) (ti : TypeInfo) (z : Value) (bytes : Nat) (ht : P.underlying t = some (.slice e)) (hti : P.info? e = some ti) (hz : ti.zero = some z)
    (hsize : ti.size = 1) (hby : ti.bytes = bytes) (hzs : z.cells.size = 1)
    (base : Nat) (A : Option Addr) (n c : Nat) (ys : List Value) (hx : a.eval x = .slice A n c) (hs : w.ownsRow base e 1 (.slice A n c) n ys) (h1 : ∀ u ∈ ys, u.oneCell' = true)
    (h63 : n ≤ maxLen) (hbytes : n * bytes ≤ 140737488355328) (heff : p.eff = Eff none) (H : Nat) (hH : H ≤ w.heap.size)
    (hpost : ∀ v w', OwnAt H H e none n ys v w' → p.post v w') : p.doesAt P ops a w := by
  have hlen := hs.1
  obtain ⟨v', w', hrun, h2, h3, h4⟩ := run_append_src (P := P) w H t o.type e ti z bytes ht hti hz hsize hby hzs (.slice none 0 0) 0 [] (World.ownsRow_nil _ _ _ _) A n c ys (by omega) (fun h => by
    rcases hs.2 with ⟨hv, h0⟩ | ⟨g, cap, cur, hv, _⟩
    · exact h0
    · rw [h] at hv; cases hv) (fun ad had j y hy => by
    obtain ⟨b, hb, _, _, hc⟩ := own_cell hs hy
    rw [hb] at had
    injection had with had
    subst had
    rw [add_off, Nat.zero_add]
    exact hc) h1 (by omega) (by rw [Nat.zero_add]; exact hbytes) hH
  rw [Nat.zero_add, List.nil_append] at h2
  obtain ⟨A', c', rfl⟩ := own_form h2
  refine does_value i (v := .slice A' n c') (w' := w') hi ho hw ?_ ?_ (hpost _ _ ⟨A', c', rfl, h2, fun b o he => .inr (own_lo h2 b o he).1⟩)
  · unfold execOp
    have hc0 : a.eval (.const (.slice none 0 0)) = .slice none 0 0 := rfl
    simp only [hop, resolve, invoke, builtin, Sem.run_bind, Sem.run_pure, Result.andThen_ok, List.map_toArray, List.map_cons, List.map_nil, hx, hc0, hrun]
  · rw [heff]
    exact ⟨h3.os, h3.tape, h3.output, h3.size, fun k hk _ => h3.block k hk (fun e => by simp [Value.ownBlock] at e)⟩

/-- The kinds as bytes. -/
def kbs (xs : List Sm) : List UInt8 := xs.map fun s => UInt8.ofNat s.t.toNat
theorem vals8_bvs (p : Nat) (xs : List Sm) (hG : ∀ s ∈ xs, s.Good p) : vals8 xs = bvs (kbs xs) := by
  unfold vals8 bvs kbs
  rw [List.map_map]
  refine List.map_congr_left fun s hs => ?_
  have := (hG s hs).kind
  show Value.int .u8 s.t = Value.int .u8 ((UInt8.ofNat s.t.toNat).toNat : Int)
  rcases this with h | h | h | h | h | h <;> rw [h] <;> rfl

/-- What impl.Walk hands back. -/
def Walks (xs : List Sm) (W : World) (e : Ending) (w' : World) : Prop := ∃ (A0 : Option Addr) (k0 : Nat) (A1 : Option Addr) (k1 : Nat) (A2 : Option Addr) (k2 : Nat) (qs : List Piece),
  e = .returned (.tuple #[.slice A0 xs.length k0, .slice A1 xs.length k1, .slice A2 xs.length k2, .bool true]) ∧ w'.ownsRow W.heap.size 31 1 (.slice A0 xs.length k0) xs.length (vals64 xs) ∧
  w'.ownsRow W.heap.size 5 1 (.slice A1 xs.length k1) xs.length (vals8 xs) ∧ w'.ownsRow W.heap.size 26 1 (.slice A2 xs.length k2) xs.length (qs.map Piece.val) ∧
  qs.map (·.l) = xs.map (·.n.data.toList) ∧ (∀ q ∈ qs, Bs w' q.A q.l) ∧ Below W.heap.size W w'

theorem Bs.stays_ {w w' : World} {A : Option Addr} {l : List UInt8} {g t n c : Nat} {v0 : Option Addr} (h : Bs w A l) (hB : Blk w g t #[.slice v0 n c]) (hK : Keeps (fun b => b = g ∨ w.heap.size ≤ b) w w') : Bs w' A l := fun hne =>
  h.keeps hK (fun b o he hlt hs => by
    rcases hs with hs | hs
    · obtain ⟨b', o', he', _, hc⟩ := h hne
      rw [he] at he'
      injection he' with he'
      injection he' with e1 e2
      subst e1 e2
      have := hc 0 (List.length_pos_iff.2 hne)
      rw [hs, hB.cell] at this
      rcases o with _ | o
      · simp at this
      · simp at this
    · omega) hne

/-- The copies made of the first k names. -/
def Copies (c2 base : Nat) (ps : List Piece) (k : Nat) (w : World) : Prop := ∃ (B : Option Addr) (cb : Nat) (qs : List Piece), qs.map (·.l) = (ps.take k).map (·.l) ∧ Blk w c2 27 #[.slice B k cb] ∧
  w.ownsRow base 26 1 (.slice B k cb) k (qs.map Piece.val) ∧ ∀ q ∈ qs, w.ownsRow base 5 1 q.val q.l.length (bvs q.l)

set_option maxRecDepth 100000 in
set_option maxHeartbeats 1600000 in
theorem impl_Walk (A : Option Addr) (xs : List Sm) (n c p : Nat) (w : World) (hn : (tbl p xs).length = n) (hb : Bs w A (tbl p xs)) (hl : n ≤ 1000000)
    (hp : p = 4 ∨ p = 8) (hG : ∀ s ∈ xs, s.Good p) (h20 : xs.length ≤ 1000) :
    Calls Try.prog 7 #[.slice A n c, .int .i64 p] w (Walks xs w) := by
  have hmf : ∀ (fn : Fn) (first cap : Array Value) (w : World), (Instr.makeFunc fn first cap).run Try.prog w = .ok (.func fn first cap) w := fun _ _ _ _ => rfl
  subst hn
  have HG := Lib.hid hG
  clear hG
  obtain ⟨i0, hi0, hz0, hz1, hz2⟩ := info_parts info_w64
  obtain ⟨m0, hm0, hx0, hx1, hx2⟩ := info_parts info_wbs
  have HI := Lib.hid (show _ ∧ _ ∧ _ ∧ _ from ⟨hi0, hz0, hz1, hz2⟩)
  have HM := Lib.hid (show _ ∧ _ ∧ _ ∧ _ from ⟨hm0, hx0, hx1, hx2⟩)
  clear hi0 hz0 hz1 hz2 hm0 hx0 hx1 hx2
  rcases hp with rfl | rfl
  all_goals
    go_enter_defers Try.func7, Try.ntmps7
    go_wp2_with fail
    refine (copied_any A _ c _ ((((hb.alloc _).alloc _).alloc _).alloc _) (by omega)).mono ?_
    rintro e w1 ⟨A', c', rfl, hown, hbel⟩
    go_wp2_with fail
    obtain ⟨hb1, _, hc1, hm1, hlo⟩ := Bs.of_own hown
    have hB0 : Blk w1 w.heap.size 25 _ := ((((Blk.new w 25 _).alloc _).alloc _).alloc _).below hbel (by simp; omega)
    have hB1 : Blk w1 (w.heap.size + 1) 26 _ := (((Blk.at_ (w.alloc (.cells #[.slice none 0 0] 25)) 26 _ (by simp)).alloc _).alloc _).below hbel (by simp)
    have hB2 : Blk w1 (w.heap.size + 2) 27 _ := ((Blk.at_ ((w.alloc (.cells #[.slice none 0 0] 25)).alloc (.cells #[.slice none 0 0] 26)) 27 _ (by simp)).alloc _).below hbel (by simp)
    have hB3 : Blk w1 (w.heap.size + 3) 4 _ := (Blk.at_ (((w.alloc (.cells #[.slice none 0 0] 25)).alloc (.cells #[.slice none 0 0] 26)).alloc (.cells #[.slice none 0 0] 27)) 4 _ (by simp)).below hbel (by simp)
    have hkeep : Below w.heap.size w w1 := (((((Below.refl _ _).alloc (Nat.le_refl _) _).alloc (by simp) _).alloc (by simp; omega) _).alloc (by simp; omega) _).trans (hbel.mono (by simp; omega))
    have hz1 : w.heap.size + 3 < w1.heap.size := hB3.lt
    refine (zzWalk_any A' xs _ c' _ _ rfl hb1 hc1 hm1 (fun b o h => (hlo b o h).2) (by decide) HG.out h20).mono ?_
    rintro e w2 ⟨A0, k0, A1, k1, A2, k2, ps, rfl, ho0, ho1, ho2, hpl, hps, hbel2⟩
    have hC0 := hB0.below hbel2 (by omega)
    have hC1 := hB1.below hbel2 (by omega)
    have hC2 := hB2.below hbel2 (by omega)
    have hC3 := hB3.below hbel2 (by omega)
    have hk2 : Below w.heap.size w w2 := hkeep.trans (hbel2.mono (by omega))
    have hz2 : w.heap.size + 3 < w2.heap.size := hC3.lt
    have hneq : (binOp .neq 40 .nilIface .nilIface).run Try.prog w2 = .ok (.bool false) w2 := by go_simp
    have HO := Lib.hid (show w2.ownsRow (w.heap.size + 4) 31 1 (.slice A0 xs.length k0) xs.length (vals64 xs) ∧ w2.ownsRow (w.heap.size + 4) 5 1 (.slice A1 xs.length k1) xs.length (vals8 xs) ∧ w2.ownsRow (w.heap.size + 4) 26 1 (.slice A2 xs.length k2) xs.length (ps.map Piece.val) from ⟨ownsRow_base ho0 (by omega), ownsRow_base ho1 (by omega), ownsRow_base ho2 (by omega)⟩)
    have HP := Lib.hid (show _ ∧ _ from ⟨hpl, hps⟩)
    have HC := Lib.hid (show _ ∧ _ ∧ _ ∧ _ from ⟨hC0, hC1, hC2, hC3⟩)
    have HK := Lib.hid (show _ ∧ _ from ⟨hk2, hz2⟩)
    clear hown hb1 hb hlo hbel hbel2 hB0 hB1 hB2 hB3 hkeep hc1 hm1 hC0 hC1 hC2 hC3 ho0 ho1 ho2 hpl hps hk2 hz2 hz1
    generalize hg0 : w.heap.size = g0 at *
    have HG0 := Lib.hid hg0
    clear hg0
    go_wp2_with fail
    go_loopw [13, 34] (fun _ i wr => ∃ k : Nat, k ≤ xs.length ∧ i = .int .i64 k ∧ Copies (g0 + 2) w2.heap.size ps k wr ∧ Keeps (fun b => b = g0 + 2 ∨ w2.heap.size ≤ b) w2 wr) (fun _ i _ => xs.length - (intOf i).toNat)
    case atStart => exact ⟨0, Nat.zero_le _, rfl, ⟨none, 0, [], by simp, HC.out.2.2.1, World.ownsRow_nil _ _ _ _, fun q hq => by cases hq⟩, Keeps.refl _ _⟩
    case round =>
      obtain ⟨k, hk2, rfl, hcp, hkk⟩ := hrel
      have HKK := Lib.hid hkk
      clear hkk
      have hpn : ps.length = xs.length := by have := congrArg List.length HP.out.1; simpa using this
      have hk3 : (0 : Int) ≤ (k : Int) := by omega
      by_cases hlt : k < xs.length
      · obtain ⟨B, cb, qs, hql, hBB, hoB, hqs⟩ := hcp
        have hpx : ps[k]? = some ps[k] := List.getElem?_eq_getElem (by omega)
        have hpmem : ps[k] ∈ ps := List.getElem_mem (by omega)
        have hpt : ps.take (k + 1) = ps.take k ++ [ps[k]] := List.take_succ_eq_append_getElem (by omega)
        have hlen : (ps[k]).l.length ≤ 1000 := by
          have h1 : (ps.map (·.l))[k]? = some (ps[k]).l := by rw [List.getElem?_map, hpx]; rfl
          rw [HP.out.1, List.getElem?_map, List.getElem?_eq_getElem hlt] at h1
          injection h1 with h1
          have h2 := (HG.out xs[k] (List.getElem_mem _)).short
          rw [← h1]
          show xs[k].n.data.toList.length ≤ 1000
          have h3 : xs[k].n.data.toList.length = xs[k].n.size := rfl
          omega
        generalize ps[k] = pk at hpx hpmem hpt hlen
        have HLEN := Lib.hid hlen
        have HPM := Lib.hid (HP.out.2 pk hpmem)
        clear hlen
        obtain ⟨b2, hA2, hlo2, hlt2, hcell2⟩ := own_cell HO.out.2.2 (i := k) (u := pk.val) (by rw [List.getElem?_map, hpx]; rfl)
        subst hA2
        have hcw : wr.cell? ⟨b2, k, none⟩ = some (.slice pk.A pk.l.length pk.c) := (HKK.out.cell (p := ⟨b2, k, none⟩) hlt2 (fun h => by
          have : b2 = g0 + 2 ∨ w2.heap.size ≤ b2 := h
          omega)).trans hcell2
        have hpb : Bs wr pk.A pk.l := (HP.out.2 pk hpmem).stays_ HC.out.2.2.1 HKK.out
        have HPT := Lib.hid hpt
        have HQ := Lib.hid (show _ ∧ _ from ⟨hql, hqs⟩)
        have HPB := Lib.hid hpb
        have HBB := Lib.hid (show _ ∧ _ from ⟨hBB, hoB⟩)
        clear hpt hql hqs hpb hpmem hpx hBB hoB hcell2
        go_wp2_with fail
        refine wp_region_noPanic ?_
        have hcb : wr.cell? ⟨g0 + 1 + 1, 0, none⟩ = some (.slice B k cb) := HBB.out.1.cell 0
        have hHS : wr.drew.heap.size = wr.heap.size := rfl
        have hHl : w2.heap.size ≤ wr.drew.heap.size := HKK.out.size
        have hPB := Lib.hid (show Bs wr.drew pk.A pk.l from HPB.out)
        have hBB' := Lib.hid (show Blk wr.drew (g0 + 1 + 1) 27 #[.slice B k cb] ∧ wr.drew.ownsRow w2.heap.size 26 1 (.slice B k cb) k (qs.map Piece.val) from HBB.out)
        have hQ' := Lib.hid (show qs.map (·.l) = (ps.take k).map (·.l) ∧ ∀ q ∈ qs, wr.drew.ownsRow w2.heap.size 5 1 q.val q.l.length (bvs q.l) from HQ.out)
        have hKK' := Lib.hid (show Keeps (fun b => b = g0 + 1 + 1 ∨ w2.heap.size ≤ b) w2 wr.drew from HKK.out.drew)
        refine wp_region_held_drew (S := fun _ => True) (by kernel_rfl) trivial (fun hHeld => ?_)
        clear hHeld hcb HPB HBB HQ HKK hcw
        generalize wr.drew = W0 at *
        refine takeT 1 rfl rfl (by kernel_rfl) (by kernel_rfl) (by kernel_rfl) (fun _ _ _ h => h) trivial rfl (fun W hW => by go_simp; rfl) ?_
        simp only [List.set_cons_zero, List.set_cons_succ]
        generalize hH : W0.heap.size = H at *
        obtain ⟨R0, hR0⟩ : ∃ R0 : Option Nat, R0 = B.map (·.block) := ⟨_, rfl⟩
        have hr0 : ∀ b o, B = some ⟨b, o, none⟩ → R0 = some b := fun b o he => by rw [hR0, he]; rfl
        have q0 : ∀ g, R0 = some g → w2.heap.size ≤ g ∧ g < H ∧ ∃ cur, W0.heap[g]? = some (.cells cur 26 (0, 0)) := fun g hg => by
          rw [hR0] at hg
          cases hB : B with
          | none => rw [hB] at hg; cases hg
          | some a =>
            obtain ⟨b, o, sp⟩ := a
            rw [hB] at hg
            have hbg : b = g := by simpa using hg
            have hoo := hBB'.out.2
            rcases hoo.2 with ⟨hv, _⟩ | ⟨g', cap, cur, hv, hbb, hh, _⟩
            · rw [hB] at hv; cases hv
            · rw [hB] at hv
              injection hv with e1
              injection e1 with e1
              injection e1 with e1 e2 e3
              subst e1 hbg
              exact ⟨hbb, hH ▸ (Array.getElem?_eq_some_iff.1 hh).1, cur, hh⟩
        obtain ⟨R, hR⟩ : ∃ R : Nat → Option Nat, R = fun i => if i = 4 then R0 else none := ⟨_, rfl⟩
        have hRn : ∀ i, i ≠ 4 → R i = none := fun i h1 => by rw [hR]; simp [h1]
        have hR4 : R 4 = R0 := by rw [hR]; rfl
        have hRall : ∀ i g, R i = some g → w2.heap.size ≤ g ∧ g < H := fun i g hg => by
          by_cases h4 : i = 4
          · subst h4; rw [hR4] at hg; exact ⟨(q0 g hg).1, (q0 g hg).2.1⟩
          · rw [hRn i h4] at hg; cases hg
        have hz2 := HK.out.2
        refine wpAnyH_rows R H [rjob R 0 [] (fun _ => True) (fun v _ => v = .slice B k cb), rjob R 2 [] (fun _ => True) (OwnAt H H 5 none pk.l.length (bvs pk.l)), rjob R 3 [2] (fun _ => True) (fun v w => ∃ x, OwnAt H H 5 none pk.l.length (bvs pk.l) x w ∧ Fresh H 26 x v w), rjob R 4 [0, 3] (fun W => W.ownsRow w2.heap.size 26 1 (.slice B k cb) k (qs.map Piece.val)) (fun v w => ∃ x, OwnAt H H 5 none pk.l.length (bvs pk.l) x w ∧ OwnAt H w2.heap.size 26 R0 (k + 1) (qs.map Piece.val ++ [x]) v w)] 1 6 (by kernel_rfl) rfl (by kernel_rfl) (fun _ _ => trivial) (fun i g hg => (hRall i g hg).2) ?_ ?_ ?_ ?_ ?_
        · intro i j g hij hi hj
          by_cases h4 : i = 4
          · rw [hRn j (fun e => hij (h4.trans e.symm))] at hj; cases hj
          · rw [hRn i h4] at hi; cases hi
        · intro p hp
          simp only [List.mem_cons, List.not_mem_nil, or_false] at hp
          rcases hp with rfl | rfl | rfl | rfl
          · exact ⟨rfl, About.true_ _ _, fun v => About.const _ _ _⟩
          · exact ⟨rfl, About.true_ _ _, fun v => (by show About H (R 2) _; rw [hRn 2 (by decide)]; exact OwnAt.about _ _ _ _ _ _ v)⟩
          · exact ⟨rfl, About.true_ _ _, fun v => (by
              show About H (R 3) _
              rw [hRn 3 (by decide)]
              exact fun w w' r' hr he ⟨x, h1, h2⟩ => ⟨x, OwnAt.about _ _ _ _ _ _ x w w' r' hr he h1, Fresh.about _ _ _ _ v w w' r' hr he h2⟩)⟩
          · exact ⟨rfl, (by show About H (R 4) _; rw [hR4]; exact pre_about H _ 26 k _ B cb R0 hr0), fun v => (by
              show About H (R 4) _
              rw [hR4]
              exact fun w w' r' hr he ⟨x, h1, h2⟩ => ⟨x, OwnAt.about _ _ _ _ _ _ x w w' r' (fun g hg => ⟨(hr g hg).1, fun h => by cases h⟩) he h1, OwnAt.about _ _ _ _ _ _ v w w' r' hr he h2⟩)⟩
        · intro p hp
          simp only [List.mem_cons, List.not_mem_nil, or_false] at hp
          rcases hp with rfl | rfl | rfl | rfl
          · exact trivial
          · exact trivial
          · exact trivial
          · exact hBB'.out.2
        · intro p hp vs W hW hpre hq
          have hszW : H ≤ W.heap.size := hH ▸ hW.size
          simp only [List.forall_mem_cons, rjob] at hq
          obtain ⟨p0, p2, p3, p4, _⟩ := hq
          simp only [List.mem_cons, List.not_mem_nil, or_false] at hp
          rcases hp with rfl | rfl | rfl | rfl
          · refine doesAt_deps [] rfl ?_
            have hcw : W.cell? ⟨g0 + 1 + 1, 0, none⟩ = some (.slice B k cb) := (hBB'.out.1.keeps hW (fun ⟨i, hi⟩ => by have := (hRall i _ hi).1; omega)).cell 0
            exact does_value 0 rfl rfl rfl (by rw [puts_none]; go_simp) (Eff.refl _ _) rfl
          · refine doesAt_deps [] rfl ?_
            rw [puts_none]
            refine does_enter 2 rfl rfl rfl (by go_simp) ((copied_any pk.A pk.l pk.c W (fun hne => hPB.out.keeps hW (fun b o he hlt ⟨i, hi⟩ => ?_) hne) (by have := HLEN.out; omega)).mono ?_)
            · obtain ⟨b', o', he', hlt', _⟩ := HPM.out hne
              rw [he] at he'
              injection he' with he'
              injection he' with e1 e2
              have := (hRall i b hi).1
              omega
            · rintro e w' ⟨A5, c5, rfl, ho5, hb5⟩
              refine ⟨_, rfl, (by show Eff (R 2) _ _; rw [hRn 2 (by decide)]; exact Eff.none_ hb5), A5, c5, rfl, ownsRow_base ho5 hszW, fun b o he => .inr (by have := (own_lo ho5 b o he).1; omega)⟩
          · refine doesAt_deps [2] rfl ?_
            obtain ⟨A5, c5, e5, o5, a5⟩ := p2 (by simp [rjob])
            rw [puts_lit vs 2 40 [] _ _ rfl, puts_none, e5]
            simp only [List.set_cons_zero, List.set_cons_succ]
            refine does_value 3 rfl rfl rfl (by go_simp) (Eff.alloc _ _ _) ⟨.slice A5 pk.l.length c5, ⟨A5, c5, rfl, o5.alloc _, a5⟩, W.heap.size, rfl, hszW, Blk.new W _ _⟩
          · refine doesAt_deps [0, 3] rfl ?_
            have el : vs 0 = .slice B k cb := p0 (by simp [rjob])
            obtain ⟨x, ⟨A5, c5, rfl, o5, a5⟩, g, eg, hgH, hgB⟩ := p3 (by simp [rjob])
            rw [puts_lit vs 0 38 [3] _ _ rfl, puts_lit vs 3 41 [] _ _ rfl, puts_none, el, eg]
            simp only [List.set_cons_zero, List.set_cons_succ]
            refine doesAt_mono (p0 := rjob R 4 [0, 3] (fun W => W.ownsRow w2.heap.size 26 1 (.slice B k cb) k (qs.map Piece.val)) (OwnAt H w2.heap.size 26 R0 (k + 1) (qs.map Piece.val ++ [Value.slice A5 pk.l.length c5]))) ?_ rfl rfl (fun v w' he h => ⟨_, OwnAt.about _ _ _ _ _ _ _ W w' R0 (fun g hg => ⟨(q0 g hg).2.1, fun h => by cases h⟩) (by rw [← hR4]; exact he) ⟨A5, c5, rfl, o5, a5⟩, h⟩)
            exact does_append 4 rfl rfl rfl (.tmp 38) (.tmp 41) 27 rfl w2.heap.size 26 m0 (.slice none 0 0) 24 Try.underlying27 HM.out.1 HM.out.2.1 HM.out.2.2.1 HM.out.2.2.2 rfl B k cb (qs.map Piece.val) rfl hpre g (.slice A5 pk.l.length c5) 26 rfl hgB rfl (by simp only [maxLen]; omega) (by omega) (by omega) R0 hr0 (by show Eff (R 4) = _; rw [hR4]) H hszW (fun v w' h => h)
        · intro vs W hW hpost
          simp only [List.forall_mem_cons, rjob] at hpost
          obtain ⟨p0, p2, p3, p4, _⟩ := hpost
          obtain ⟨A5, c5, e5, _, _⟩ := p2
          obtain ⟨x3, _, g3, e3, _, _⟩ := p3
          obtain ⟨x4, ⟨A6, c6, rfl, o6, _⟩, B4, cb4, e4, o4, _⟩ := p4
          refine putsT 0 38 rfl (putsT 2 40 rfl (putsT 3 41 rfl (putsT 4 42 rfl (putsN ?_))))
          rw [p0, e5, e3, e4]
          simp only [List.set_cons_zero, List.set_cons_succ]
          have y2 := hBB'.out.1.keeps hW (fun ⟨i, hi⟩ => by have := (hRall i _ hi).1; omega)
          have z2 := y2.cell 0
          have f2 := y2.frozen 0
          simp only [List.getElem?_toArray, List.getElem?_cons_zero] at z2
          have hd : W.setCell ⟨g0 + 1 + 1, 0, none⟩ (.slice B4 (k + 1) cb4) = W.setCell ⟨g0 + 1 + 1, 0, none⟩ (.slice B4 (k + 1) cb4) := rfl
          have x2 := y2.set_ 0 (.slice B4 (k + 1) cb4)
          have kk : Keeps (fun b => b = g0 + 1 + 1) W _ := (Keeps.refl (fun b => b = g0 + 1 + 1) W).setCell (p := ⟨g0 + 1 + 1, 0, none⟩) (fun _ => rfl) (.slice B4 (k + 1) cb4)
          have HXX := Lib.hid (show Blk _ _ _ _ ∧ Keeps _ _ _ from ⟨x2, kk⟩)
          have HOO := Lib.hid (show _ ∧ _ from ⟨o4, o6⟩)
          have HWW := Lib.hid hW
          have HRA := Lib.hid hRall
          have HQ0 := Lib.hid q0
          clear hd x2 kk o4 o6 hW hRall q0 e5 e3 e4 p0 y2
          refine wpAnyH_ready (rs := [5]) (by kernel_rfl) (by simp) (AllReadyH.cons (i := 5) rfl (fun K hK => ?_) AllReadyH.nil)
          go_simp
          refine hK.out _ _ trivial (fun _ => ?_)
          clear hK K
          refine wpAnyH_done (by kernel_rfl) ?_ _
          refine NoPanic.normal ?_
          generalize W.setCell ⟨g0 + 1 + 1, 0, none⟩ (.slice B4 (k + 1) cb4) = W9 at HXX ⊢
          clear z2 f2
          have hcop : Copies (g0 + 2) w2.heap.size ps (k + 1) W9 := by
            obtain ⟨x2, kk⟩ := HXX.out
            obtain ⟨o4, o6⟩ := HOO.out
            have hK1 := HWW.out
            have hlow : ∀ {e n : Nat} {A : Option Addr} {c : Nat} {ys : List Value}, W.ownsRow w2.heap.size e 1 (.slice A n c) n ys → W9.ownsRow w2.heap.size e 1 (.slice A n c) n ys := fun {e n A c ys} ho => own_keeps ho kk (fun g hg h => by
              have h' : g = g0 + 1 + 1 := h
              rcases ho.2 with ⟨hv, _⟩ | ⟨g', cap, cur, hv, hb, _⟩
              · rw [hv] at hg; simp [Value.ownBlock] at hg
              · rw [hv] at hg
                have : g' = g := by simpa [Value.ownBlock] using hg
                omega)
            refine ⟨B4, cb4, qs ++ [⟨A6, pk.l, c6⟩], ?_, x2, ?_, ?_⟩
            · rw [HPT.out, List.map_append, List.map_append, hQ'.out.1]; rfl
            · rw [List.map_append]; exact hlow o4
            · intro q hq
              rcases List.mem_append.1 hq with hq | hq
              · have hoq : W0.ownsRow w2.heap.size 5 1 (.slice q.A q.l.length q.c) q.l.length (bvs q.l) := hQ'.out.2 q hq
                refine hlow (own_keeps hoq hK1 (fun g hg ⟨i, hi⟩ => ?_))
                have hi4 : i = 4 := by
                  by_cases h4 : i = 4
                  · exact h4
                  · rw [hRn i h4] at hi; cases hi
                subst hi4
                rw [hR4] at hi
                obtain ⟨_, _, cur, hcur⟩ := HQ0.out g hi
                rcases hoq.2 with ⟨hv, _⟩ | ⟨g', cap, cur', hv, hb, hg', _⟩
                · rw [hv] at hg; simp [Value.ownBlock] at hg
                · rw [hv] at hg
                  have : g' = g := by simpa [Value.ownBlock] using hg
                  subst this
                  exact blk_ne hcur hg' (by decide) rfl
              · simp only [List.mem_singleton] at hq
                subst hq
                exact hlow (ownsRow_base o6 (by omega))
          have hkall : Keeps (fun b => b = g0 + 2 ∨ w2.heap.size ≤ b) w2 W9 :=
            (hKK'.out.trans (HWW.out.mono (fun i ⟨j, hj⟩ => .inr (HRA.out j i hj).1))).trans (HXX.out.2.mono (fun i h => .inl h))
          have HCOP := Lib.hid hcop
          have HKALL := Lib.hid hkall
          clear hcop hkall HXX HOO HWW HRA HQ0 hPB hBB' hQ' hKK' hRn hR4 hR hr0 hR0
          go_wp2_with fail
          exact ⟨⟨k + 1, by omega, by go_num, HCOP.out, HKALL.out⟩, by simp [intOf]; omega⟩
      · obtain rfl : k = xs.length := by omega
        obtain ⟨B, cb, qs, hql, hBB, hoB, hqs⟩ := hcp
        rw [show ps.take xs.length = ps by rw [← hpn]; exact List.take_length] at hql
        have hz2 := HK.out.2
        have y0 := HC.out.1.keeps HKK.out (fun h => by
          have h' : g0 = g0 + 2 ∨ w2.heap.size ≤ g0 := h
          omega)
        have y1 := HC.out.2.1.keeps HKK.out (fun h => by
          have h' : g0 + 1 = g0 + 2 ∨ w2.heap.size ≤ g0 + 1 := h
          omega)
        have y3 := HC.out.2.2.2.keeps HKK.out (fun h => by
          have h' : g0 + 3 = g0 + 2 ∨ w2.heap.size ≤ g0 + 3 := h
          omega)
        have hlow2 : ∀ {e n : Nat} {A : Option Addr} {c : Nat} {ys : List Value}, w2.ownsRow (g0 + 4) e 1 (.slice A n c) n ys → wr.ownsRow (g0 + 4) e 1 (.slice A n c) n ys := fun {e n A c ys} ho => own_keeps ho HKK.out (fun g hg h => by
          have h' : g = g0 + 2 ∨ w2.heap.size ≤ g := h
          rcases ho.2 with ⟨hv, _⟩ | ⟨g', cap, cur, hv, hb, hh, _⟩
          · rw [hv] at hg; simp [Value.ownBlock] at hg
          · rw [hv] at hg
            have : g' = g := by simpa [Value.ownBlock] using hg
            have := (Array.getElem?_eq_some_iff.1 hh).1
            omega)
        have HO' := Lib.hid (show wr.drew.ownsRow (g0 + 4) 31 1 (.slice A0 xs.length k0) xs.length (vals64 xs) ∧ wr.drew.ownsRow (g0 + 4) 5 1 (.slice A1 xs.length k1) xs.length (bvs (kbs xs)) from ⟨hlow2 HO.out.1, by rw [← vals8_bvs _ xs HG.out]; exact hlow2 HO.out.2.1⟩)
        have HB' := Lib.hid (show Blk wr.drew g0 25 #[.slice none 0 0] ∧ Blk wr.drew (g0 + 1) 26 #[.slice none 0 0] ∧ Blk wr.drew (g0 + 1 + 1) 27 #[.slice B xs.length cb] ∧ Blk wr.drew (g0 + 1 + 1 + 1) 4 #[.bool false] from ⟨y0, y1, hBB, y3⟩)
        have HN' := Lib.hid (show wr.drew.ownsRow w2.heap.size 26 1 (.slice B xs.length cb) xs.length (qs.map Piece.val) ∧ (∀ q ∈ qs, wr.drew.ownsRow w2.heap.size 5 1 q.val q.l.length (bvs q.l)) ∧ qs.map (·.l) = xs.map (·.n.data.toList) from ⟨hoB, hqs, hql.trans HP.out.1⟩)
        have HW' := Lib.hid (show Below g0 w wr.drew ∧ w2.heap.size ≤ wr.drew.heap.size from ⟨HK.out.1.trans (HKK.out.drew.below (by omega) (fun i h => by
          have h' : i = g0 + 2 ∨ w2.heap.size ≤ i := h
          omega)), HKK.out.size⟩)
        clear y0 y1 y3 hlow2 hBB hoB hqs hql HKK HO HC
        go_wp2_with fail
        refine wp_region_noPanic ?_
        refine wp_region_held_drew (S := fun w' => w'.cell? ⟨g0 + 1 + 1, 0, none⟩ = some (.slice B xs.length cb)) (by kernel_rfl) (HB'.out.2.2.1.cell 0) (fun hHeld => ?_)
        generalize wr.drew = W0 at *
        refine takeT 0 rfl rfl (by kernel_rfl) (by kernel_rfl) (by kernel_rfl) (fun _ _ _ h => h) hHeld rfl (fun W hW => by go_simp; rfl) ?_
        simp only [List.set_cons_zero, List.set_cons_succ]
        refine takeT 2 rfl rfl (by kernel_rfl) (by kernel_rfl) (by kernel_rfl) (fun _ _ _ h => h) hHeld rfl (fun W hW => by go_simp; rfl) ?_
        simp only [List.set_cons_zero, List.set_cons_succ]
        refine takeT 4 rfl rfl (by kernel_rfl) (by kernel_rfl) (by kernel_rfl) (fun _ _ _ h => h) hHeld rfl (fun W hW => by have hW' : W.cell? ⟨g0 + 1 + 1, 0, none⟩ = some (.slice B xs.length cb) := hW; clear hW; go_simp; rfl) ?_
        simp only [List.set_cons_zero, List.set_cons_succ]
        generalize hH : W0.heap.size = H at *
        obtain ⟨R, hR⟩ : ∃ R : Nat → Option Nat, R = fun _ => none := ⟨_, rfl⟩
        have hRn : ∀ i, R i = none := fun i => by rw [hR]
        have hkn : ∀ b, ¬ ∃ i, R i = some b := fun b ⟨i, hi⟩ => by rw [hRn i] at hi; cases hi
        refine wpAnyH_rows R H [rjob R 1 [] (fun _ => True) (OwnAt H H 31 none xs.length (vals64 xs)), rjob R 3 [] (fun _ => True) (OwnAt H H 5 none xs.length (bvs (kbs xs)))] 4 9 (by kernel_rfl) rfl (by kernel_rfl) (fun w' hw' => (hw'.cell (p := ⟨g0 + 1 + 1, 0, none⟩) (by show g0 + 1 + 1 < _; have := HW'.out.2; omega) (hkn _)).trans hHeld) (fun i g hg => absurd ⟨i, hg⟩ (hkn g)) (fun i j g _ hi => absurd ⟨i, hi⟩ (hkn g)) ?_ ?_ ?_ ?_
        · intro p hp
          simp only [List.mem_cons, List.not_mem_nil, or_false] at hp
          rcases hp with rfl | rfl
          · exact ⟨rfl, About.true_ _ _, fun v => (by show About H (R 1) _; rw [hRn 1]; exact OwnAt.about _ _ _ _ _ _ v)⟩
          · exact ⟨rfl, About.true_ _ _, fun v => (by show About H (R 3) _; rw [hRn 3]; exact OwnAt.about _ _ _ _ _ _ v)⟩
        · intro p hp
          simp only [List.mem_cons, List.not_mem_nil, or_false] at hp
          rcases hp with rfl | rfl
          · exact trivial
          · exact trivial
        · intro p hp vs W hW hpre hq
          have hszW : H ≤ W.heap.size := hH ▸ hW.size
          simp only [List.mem_cons, List.not_mem_nil, or_false] at hp
          rcases hp with rfl | rfl
          · refine doesAt_deps [] rfl ?_
            rw [puts_none]
            exact does_appends 1 rfl rfl rfl (.tmp 44) 25 rfl 31 i0 (.int .u64 0) 8 Try.underlying25 HI.out.1 HI.out.2.1 HI.out.2.2.1 HI.out.2.2.2 rfl (g0 + 4) A0 xs.length k0 (vals64 xs) rfl (own_keeps HO'.out.1 hW (fun g _ h => hkn g h)) (fun u hu => by
              simp only [vals64, List.mem_map] at hu
              obtain ⟨s, _, rfl⟩ := hu
              rfl) (by simp only [maxLen]; omega) (by omega) (by show Eff (R 1) = _; rw [hRn 1]) H hszW (fun v w' h => h)
          · refine doesAt_deps [] rfl ?_
            rw [puts_none]
            have hkl : (kbs xs).length = xs.length := by simp [kbs]
            have hcp := copied_any A1 (kbs xs) k1 W (Bs.of_own (own_keeps HO'.out.2 hW (fun g _ h => hkn g h))).1 (by omega)
            rw [hkl] at hcp
            refine does_enter 3 rfl rfl rfl (by go_simp) (hcp.mono ?_)
            rintro e w' ⟨A5, c5, rfl, ho5, hb5⟩
            exact ⟨_, rfl, (by show Eff (R 3) _ _; rw [hRn 3]; exact Eff.none_ hb5), A5, c5, rfl, ownsRow_base ho5 hszW, fun b o he => .inr (by have := (own_lo ho5 b o he).1; omega)⟩
        · intro vs W hW hpost
          simp only [List.forall_mem_cons, rjob] at hpost
          obtain ⟨p1, p3, _⟩ := hpost
          obtain ⟨V, cv, e1, o1, _⟩ := p1
          obtain ⟨K1, ck, e3, o3, _⟩ := p3
          refine putsT 1 45 rfl (putsT 3 47 rfl (putsN ?_))
          rw [e1, e3]
          simp only [List.set_cons_zero, List.set_cons_succ]
          have y0 := HB'.out.1.keeps hW (hkn _)
          have y1 := HB'.out.2.1.keeps hW (hkn _)
          have y2 := HB'.out.2.2.1.keeps hW (hkn _)
          have y3 := HB'.out.2.2.2.keeps hW (hkn _)
          have z0 := y0.cell 0
          have z1 := y1.cell 0
          have z2 := y2.cell 0
          have z3 := y3.cell 0
          have f0 := y0.frozen 0
          have f1 := y1.frozen 0
          have f2 := y2.frozen 0
          have f3 := y3.frozen 0
          simp only [List.getElem?_toArray, List.getElem?_cons_zero] at z0 z1 z2 z3
          have s5 : (W.setCell ⟨g0, 0, none⟩ (.slice V xs.length cv)).cell? ⟨g0 + 1 + 1, 0, none⟩ = some (.slice B xs.length cb) := (World.cell?_setCell_far _ _ _ _ (by dsimp only; omega)).trans z2
          have s6 : ((W.setCell ⟨g0, 0, none⟩ (.slice V xs.length cv)).setCell ⟨g0 + 1, 0, none⟩ (.slice K1 xs.length ck)).cell? ⟨g0 + 1 + 1, 0, none⟩ = some (.slice B xs.length cb) := (World.cell?_setCell_far _ _ _ _ (by dsimp only; omega)).trans s5
          have s7 : (((W.setCell ⟨g0, 0, none⟩ (.slice V xs.length cv)).setCell ⟨g0 + 1, 0, none⟩ (.slice K1 xs.length ck)).setCell ⟨g0 + 1 + 1, 0, none⟩ (.slice B xs.length cb)).cell? ⟨g0 + 1 + 1, 0, none⟩ = some (.slice B xs.length cb) := World.cell?_setCell_same _ _ _ s6
          have s8 : ((((W.setCell ⟨g0, 0, none⟩ (.slice V xs.length cv)).setCell ⟨g0 + 1, 0, none⟩ (.slice K1 xs.length ck)).setCell ⟨g0 + 1 + 1, 0, none⟩ (.slice B xs.length cb)).setCell ⟨g0 + 1 + 1 + 1, 0, none⟩ (.bool true)).cell? ⟨g0 + 1 + 1, 0, none⟩ = some (.slice B xs.length cb) := (World.cell?_setCell_far _ _ _ _ (by dsimp only; omega)).trans s7
          have S5 := Lib.hid s5
          have S6 := Lib.hid s6
          have S7 := Lib.hid s7
          have S8 := Lib.hid s8
          have HY := Lib.hid (show _ ∧ _ ∧ _ ∧ _ from ⟨y0, y1, y2, y3⟩)
          have HV := Lib.hid (show _ ∧ _ from ⟨o1, o3⟩)
          have HWW := Lib.hid (show Keeps (fun _ => False) W0 W from hW.mono (fun b h => hkn b h))
          clear s5 s6 s7 s8 y0 y1 y2 y3 o1 o3 hW e1 e3 hkn hRn hR
          refine wpAnyH_ready (rs := [5]) (by kernel_rfl) (by simp) (AllReadyH.cons (i := 5) rfl (fun K hK => ?_) AllReadyH.nil)
          go_simp
          refine hK.out _ _ S5.out (fun _ => ?_)
          clear hK K
          refine wpAnyH_ready (rs := [6]) (by kernel_rfl) (by simp) (AllReadyH.cons (i := 6) rfl (fun K hK => ?_) AllReadyH.nil)
          go_simp
          refine hK.out _ _ S6.out (fun _ => ?_)
          clear hK K
          refine wpAnyH_ready (rs := [7]) (by kernel_rfl) (by simp) (AllReadyH.cons (i := 7) rfl (fun K hK => ?_) AllReadyH.nil)
          go_simp
          refine hK.out _ _ S7.out (fun _ => ?_)
          clear hK K
          refine wpAnyH_ready (rs := [8]) (by kernel_rfl) (by simp) (AllReadyH.cons (i := 8) rfl (fun K hK => ?_) AllReadyH.nil)
          go_simp
          refine hK.out _ _ S8.out (fun _ => ?_)
          clear hK K
          refine wpAnyH_done (by kernel_rfl) ?_ _
          refine NoPanic.normal ?_
          have t0 := (((HY.out.1.set_ 0 (.slice V xs.length cv)).far (p := ⟨g0 + 1, 0, none⟩) (by dsimp only; omega) (.slice K1 xs.length ck)).far (p := ⟨g0 + 1 + 1, 0, none⟩) (by dsimp only; omega) (.slice B xs.length cb)).far (p := ⟨g0 + 1 + 1 + 1, 0, none⟩) (by dsimp only; omega) (.bool true)
          have t1 := (((HY.out.2.1.far (p := ⟨g0, 0, none⟩) (by dsimp only; omega) (.slice V xs.length cv)).set_ 0 (.slice K1 xs.length ck)).far (p := ⟨g0 + 1 + 1, 0, none⟩) (by dsimp only; omega) (.slice B xs.length cb)).far (p := ⟨g0 + 1 + 1 + 1, 0, none⟩) (by dsimp only; omega) (.bool true)
          have t2 := (((HY.out.2.2.1.far (p := ⟨g0, 0, none⟩) (by dsimp only; omega) (.slice V xs.length cv)).far (p := ⟨g0 + 1, 0, none⟩) (by dsimp only; omega) (.slice K1 xs.length ck)).set_ 0 (.slice B xs.length cb)).far (p := ⟨g0 + 1 + 1 + 1, 0, none⟩) (by dsimp only; omega) (.bool true)
          have t3 := (((HY.out.2.2.2.far (p := ⟨g0, 0, none⟩) (by dsimp only; omega) (.slice V xs.length cv)).far (p := ⟨g0 + 1, 0, none⟩) (by dsimp only; omega) (.slice K1 xs.length ck)).far (p := ⟨g0 + 1 + 1, 0, none⟩) (by dsimp only; omega) (.slice B xs.length cb)).set_ 0 (.bool true)
          have kk : Keeps (fun b => g0 ≤ b ∧ b ≤ g0 + 3) W _ := ((((Keeps.refl (fun b => g0 ≤ b ∧ b ≤ g0 + 3) W).setCell (p := ⟨g0, 0, none⟩) (fun _ => by dsimp only; omega) (.slice V xs.length cv)).setCell (p := ⟨g0 + 1, 0, none⟩) (fun _ => by dsimp only; omega) (.slice K1 xs.length ck)).setCell (p := ⟨g0 + 1 + 1, 0, none⟩) (fun _ => by dsimp only; omega) (.slice B xs.length cb)).setCell (p := ⟨g0 + 1 + 1 + 1, 0, none⟩) (fun _ => by dsimp only; omega) (.bool true)
          clear S5 S6 S7 S8 z0 z1 z2 z3 f0 f1 f2 f3
          generalize (((W.setCell ⟨g0, 0, none⟩ (.slice V xs.length cv)).setCell ⟨g0 + 1, 0, none⟩ (.slice K1 xs.length ck)).setCell ⟨g0 + 1 + 1, 0, none⟩ (.slice B xs.length cb)).setCell ⟨g0 + 1 + 1 + 1, 0, none⟩ (.bool true) = W9 at t0 t1 t2 t3 kk ⊢
          simp only [List.setIfInBounds_toArray, List.set_cons_zero] at t0 t1 t2 t3
          have hlow : ∀ {base e n : Nat} {A : Option Addr} {c : Nat} {ys : List Value}, g0 + 4 ≤ base → W.ownsRow base e 1 (.slice A n c) n ys → W9.ownsRow base e 1 (.slice A n c) n ys := fun {base e n A c ys} hbs ho => own_keeps ho kk (fun g hg h => by
            have h' : g0 ≤ g ∧ g ≤ g0 + 3 := h
            rcases ho.2 with ⟨hv, _⟩ | ⟨g', cap, cur, hv, hb, _⟩
            · rw [hv] at hg; simp [Value.ownBlock] at hg
            · rw [hv] at hg
              have : g' = g := by simpa [Value.ownBlock] using hg
              omega)
          have hWH := HW'.out.2
          have r0 := hlow (by omega) HV.out.1
          have r1 := hlow (by omega) HV.out.2
          have r2 := hlow (by omega) (own_keeps HN'.out.1 HWW.out (fun _ _ h => h))
          have r3 : ∀ q ∈ qs, Bs W9 q.A q.l := fun q hq => (Bs.of_own (hlow (base := w2.heap.size) (by omega) (show W.ownsRow _ _ 1 (.slice q.A q.l.length q.c) _ _ from own_keeps (HN'.out.2.1 q hq) HWW.out (fun _ _ h => h)))).1
          have hk9 : Below g0 w W9 := (HW'.out.1.trans (HWW.out.below (by omega) (fun i h => h.elim))).trans (kk.below (by have := HWW.out.size; omega) (fun i h => h.1))
          rw [← vals8_bvs _ xs HG.out] at r1
          have HR9 := Lib.hid (show _ ∧ _ ∧ _ ∧ _ ∧ _ from ⟨r0, r1, r2, r3, hk9⟩)
          clear r0 r1 r2 r3 hk9 hlow kk HV HWW HY
          have d0 := t0.cell 0
          have d1 := t1.cell 0
          have d2 := t2.cell 0
          have d3 := t3.cell 0
          simp only [List.getElem?_toArray, List.getElem?_cons_zero] at d0 d1 d2 d3
          clear t0 t1 t2 t3
          go_wp2_with fail
          refine leaves_cons (f := 13) (args := #[.pointer (some ⟨g0, 0, none⟩), .pointer (some ⟨g0 + 1, 0, none⟩), .pointer (some ⟨g0 + 1 + 1, 0, none⟩), .pointer (some ⟨g0 + 1 + 1 + 1, 0, none⟩)]) (by simp) (by simp [go_sem]) ?_
          refine (catch_Walk _ _ _ _ _).mono ?_
          rintro e u' w9 ⟨rfl, rfl, rfl⟩
          have hg0 := HG0.out
          refine ⟨.tuple #[.slice V xs.length cv, .slice K1 xs.length ck, .slice B xs.length cb, .bool true], ?_, V, cv, K1, ck, B, cb, qs, rfl, ?_, ?_, ?_, HN'.out.2.2, HR9.out.2.2.2.1, ?_⟩
          · simp [results, Try.results7, go_sem, d0, d1, d2, d3]
          · exact hg0 ▸ ownsRow_base HR9.out.1 (by omega)
          · exact hg0 ▸ ownsRow_base HR9.out.2.1 (by omega)
          · exact hg0 ▸ ownsRow_base HR9.out.2.2.1 (by omega)
          · exact hg0 ▸ HR9.out.2.2.2.2
end Go.Proofs.Ytpdjolkbjcdimaa
