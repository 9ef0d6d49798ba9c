/- impl.P9File over a written program: what is told of it. -/
import Derived.Test.YtpdjolkbjcdimaaDoorSecs5
import Derived.Test.YtpdjolkbjcdimaaDoorCopied
import Derived.Test.YtpdjolkbjcdimaaDoorWhole
import Derived.Test.YtpdjolkbjcdimaaDoorJobLies
import Derived.Defers
import Derived.Recover
namespace Go.Proofs.YtpdjolkbjcdimaaDoor
open Go.RowKit

theorem doesAt_mono {P : Program} {ops : Array Oper} {p p0 : Job} {a : Act} {w : World} (h : p0.doesAt P ops a w) (hi : p0.i = p.i) (he : p0.eff = p.eff) (hp : ∀ v w', p0.eff w w' → p0.post v w' → p.post v w') : p.doesAt P ops a w := fun o ho => by
  obtain ⟨hw, hu⟩ := h o (hi ▸ ho)
  refine ⟨hw, ?_⟩
  rw [← he]
  generalize (execOp a.eval o).run P w = r at hu ⊢
  cases r with
  | halt x w' => simp only [doesUpon] at hu
  | ok n w' =>
    cases n <;> simp only [doesUpon] at hu ⊢
    case value v => exact ⟨hu.1, hp _ _ hu.1 hu.2⟩
    case skip => exact ⟨hu.1, hp _ _ hu.1 hu.2⟩
    case enter f args => exact ⟨hu.1, hu.2.mono fun e w'' ⟨v, he', h1, h2⟩ => ⟨v, he', h1, hp _ _ h1 h2⟩⟩
theorem blk_ne {w : World} {g g' t t' : Nat} {cs cs' : Array Value} {fr fr' : Nat × Nat} (h : w.heap[g]? = some (.cells cs t fr)) (h' : w.heap[g']? = some (.cells cs' t' fr')) (hne : t ≠ t') : g ≠ g' := by
  rintro rfl
  rw [h] at h'
  injection h' with h'
  injection h' with _ ht
  exact hne ht
theorem Eff.none_ {w w' : World} (h : Below w.heap.size w w') : Eff none w w' := Keeps.of_below h _
theorem own_lo {w : World} {base e n : Nat} {A : Option Addr} {c : Nat} {xs : List Value} (h : w.ownsRow base e 1 (.slice A n c) n xs) : ∀ b o, A = some ⟨b, o, none⟩ → base ≤ b ∧ b < w.heap.size := fun b o he => by
  rcases h.2 with ⟨hv, _⟩ | ⟨g, cap, cur, hv, hb, hh, _⟩
  · rw [he] at hv; cases hv
  · injection hv with e1
    rw [he] at e1
    injection e1 with e1
    injection e1 with e1
    subst e1
    exact ⟨hb, (Array.getElem?_eq_some_iff.1 hh).1⟩
/-- The results of a function that hands back a whole block and a cell. -/
theorem results_whole_cell {P : Program} {w : World} {g : Nat} {t : TypeId} {cs : Array Value} {fn : Func} {p q : Tmp} {ty uy : TypeId} (hr : fn.results = #[.cell p ty, .cell q uy]) (tmps : Array Value) (h : Blk w g t cs) (d : TypeDesc)
    (hp : tmps.getD p undef = .pointer (some ⟨g, 0, none⟩)) (hu : P.underlying ty = some d) (hd : d.isRow = true) (hi : (P.info? ty).map (·.size) = some cs.size)
    (a : Addr) (hq : tmps.getD q undef = .pointer (some a)) (u : Value) (hl : (loadVar uy a).run P w = .ok u w) :
    (results fn tmps).run P w = .ok (.tuple #[.agg cs, u]) w := by
  have hp' : tmps[p]?.getD undef = .pointer (some ⟨g, 0, none⟩) := by simpa using hp
  have hq' : tmps[q]?.getD undef = .pointer (some a) := by simpa using hq
  have hl2 := run_loadVar_mid (P := P) w g 0 ty cs.toList d h.range_ hu hd (by simpa using hi)
  simp [results, hr, hp', hq', asAddr, hl2, hl]
theorem catch_P9File (p q : Addr) (w : World) :
    CallsD Tryd.prog 25 #[.pointer (some p), .pointer (some q)] .returning w fun e u' w' => e = .returned (.tuple #[]) ∧ u' = .returning ∧ w' = w := by
  refine callsD_of_wpS Tryd.func25 rfl fun c₀ cs hu => ?_
  apply wpS_seq
  apply wpS_region
  simp [wpOpsS, go_sem, recoverD, hu, Tryd.ntmps25, Exit.thenS]
  refine wpS_cond (t := false) (by simp [Act.eval, Array.replicate]) ?_
  simp only [Bool.false_eq_true, if_false]
  refine wpS_of_wp (wp_skip ?_)
  cases c₀
  simp_all [bodyPostS, results, Tryd.results25]

/-- What has been told of the first k sections: the result's block, its row of sections, and each one's own copy of its data. -/
def ToldOf (p : Prg) (g0 base k : Nat) (w : World) : Prop := ∃ (Ao : Option Addr) (co : Nat) (xs : List Sx), xs.length = k ∧ Blk w g0 39 #[.int .u32 (p.M : Nat), .int .u32 (p.B : Nat), .int .u64 (p.E : Nat), .int .i64 (p.ptr : Nat), .int .u64 (p.load : Nat), .int .u64 (p.hdr : Nat), .slice Ao k co] ∧ w.ownsRow base 79 4 (.slice Ao k co) k (sxCells xs) ∧
  ∀ (j : Nat) (x : Sx), xs[j]? = some x → (∃ q, p.pieces[j]? = some q ∧ x.d.l = q.l ∧ x.m = q.l.length) ∧ secNames[j]? = some x.nm ∧ x.off = offAt p.hdr p.lens j ∧ w.ownsRow base 5 1 x.d.val x.d.l.length (bvs x.d.l)

/-- What impl.P9File hands back. -/
def P9Out (p : Prg) (w : World) (e : Ending) (w' : World) : Prop := ∃ (Ao : Option Addr) (co : Nat) (xs : List Sx), e = .returned (.tuple #[.agg #[.int .u32 (p.M : Nat), .int .u32 (p.B : Nat), .int .u64 (p.E : Nat), .int .i64 (p.ptr : Nat), .int .u64 (p.load : Nat), .int .u64 (p.hdr : Nat), .slice Ao 5 co], .bool true]) ∧ xs.length = 5 ∧ Sxs w' Ao xs ∧
  (∀ (j : Nat) (x : Sx), xs[j]? = some x → (∃ q, p.pieces[j]? = some q ∧ x.d.l = q.l ∧ x.m = q.l.length) ∧ secNames[j]? = some x.nm ∧ x.off = offAt p.hdr p.lens j) ∧ Below w.heap.size w w'

set_option maxRecDepth 100000 in
set_option maxHeartbeats 1600000 in
theorem impl_P9File (A : Option Addr) (p : Prg) (n c : Nat) (w : World) (hE : Eofs w) (hn : p.bytes.length = n) (hb : Bs w A p.bytes) (hh : Heads p.bytes p.M p.T.l.length p.D.l.length p.B p.S.l.length p.E p.P.l.length p.Q.l.length p.hdr p.ptr p.load p.E) (hl : n ≤ 1000000) :
    Calls Tryd.prog 10 #[.slice A n c] w (P9Out p w) := by
  have hmf : ∀ (fn : Fn) (first cap : Array Value) (w : World), (Instr.makeFunc fn first cap).run Tryd.prog w = .ok (.func fn first cap) w := fun _ _ _ _ => rfl
  subst hn
  obtain ⟨i0, hi0, hz0, hz1, hz2⟩ := info_parts info_p9s
  have HI := Lib.hid (show _ ∧ _ ∧ _ ∧ _ from ⟨hi0, hz0, hz1, hz2⟩)
  clear hi0 hz0 hz1 hz2
  have HH := Lib.hid hh
  clear hh
  go_enter_defers Tryd.func10, Tryd.ntmps10
  go_wp2_with fail
  refine (copied_any A _ c _ ((hb.alloc _).alloc _) (by omega)).mono ?_
  rintro e w1 ⟨A', c', rfl, hown, hbel⟩
  go_wp2_with fail
  obtain ⟨hb1, _, hc1, hm1, hlo⟩ := Bs.of_own hown
  have hB : Blk w1 w.heap.size 39 _ := ((Blk.new w 39 _).alloc _).below hbel (by simp; omega)
  have hB' : Blk w1 (w.heap.size + 1) 4 _ := (Blk.at_ (w.alloc (.cells #[.int .u32 0, .int .u32 0, .int .u64 0, .int .i64 0, .int .u64 0, .int .u64 0, .slice none 0 0] 39)) 4 _ (by simp)).below hbel (by simp)
  refine (zzNew_any c' A' p.bytes w1 _ _ _ _ _ _ _ _ _ _ _ _ hb1 hc1 HH.out).mono ?_
  rintro e w2 ⟨gf, ga, rfl, hF, hS, hR, hgf, hga, hbel2⟩
  have hz1 : w.heap.size + 1 < w1.heap.size := hB'.lt
  have hkeep : Below w.heap.size w w1 := (((Below.refl _ _).alloc (Nat.le_refl _) _).alloc (by simp) _).trans (hbel.mono (by simp; omega))
  have hC := hB.below hbel2 (by omega)
  have hC' := hB'.below hbel2 (by omega)
  have hk2 : Below w.heap.size w w2 := hkeep.trans (hbel2.mono (by omega))
  have hb2 := hb1.below hbel2
  have hz2 : w1.heap.size ≤ w2.heap.size := hbel2.size
  have hneq : (binOp .neq 54 .nilIface .nilIface).run Tryd.prog w2 = .ok (.bool false) w2 := by go_simp
  have hA' : ∀ b o, A' = some ⟨b, o, none⟩ → w.heap.size + 2 ≤ b ∧ b < w1.heap.size := fun b o h => by have := hlo b o h; simp at this; omega
  clear hown hb1 hb hlo hbel hbel2 hB hB' hkeep hm1
  generalize hg0 : w.heap.size = g0 at *
  have HG0 := Lib.hid hg0
  clear hg0
  generalize w1.heap.size = gr at *
  have f0 := hF.cell 0
  have f1 := hF.cell 1
  have f2 := hF.cell 2
  have f3 := hF.cell 3
  have f4 := hF.cell 4
  have f5 := hF.cell 5
  have f6 := hF.cell 6
  have c0 := hC.cell 0
  have c1 := hC.cell 1
  have c2 := hC.cell 2
  have c3 := hC.cell 3
  have c4 := hC.cell 4
  have c5 := hC.cell 5
  have c6 := hC.cell 6
  have z0 := hC.frozen 0
  have z1 := hC.frozen 1
  have z2 := hC.frozen 2
  have z3 := hC.frozen 3
  have z4 := hC.frozen 4
  have z5 := hC.frozen 5
  have z6 := hC.frozen 6
  simp only [List.getElem?_toArray, List.getElem?_cons_zero, List.getElem?_cons_succ] at f0 f1 f2 f3 f4 f5 f6 c0 c1 c2 c3 c4 c5 c6
  have n1 : ¬ g0 = gf := by omega
  have n2 : ¬ gf = g0 := by omega
  have HX := Lib.hid (show _ ∧ _ ∧ _ ∧ _ ∧ _ ∧ _ ∧ _ from ⟨hF, hS, hR, hC, hC', hk2, hb2⟩)
  clear hF hS hR hC hC' hk2 hb2
  go_wp2_with fail
  go_region_held3 (fun w' => w'.cell? ⟨gf, 0, none⟩ = some (.int .u32 (p.M : Nat)) ∧ w'.cell? ⟨gf, 1, none⟩ = some (.int .u32 (p.B : Nat)) ∧ w'.cell? ⟨gf, 2, none⟩ = some (.int .u64 (p.E : Nat)) ∧ w'.cell? ⟨gf, 3, none⟩ = some (.int .i64 (p.ptr : Nat)) ∧ w'.cell? ⟨gf, 4, none⟩ = some (.int .u64 (p.load : Nat)) ∧ w'.cell? ⟨gf, 5, none⟩ = some (.int .u64 (p.hdr : Nat)))
    (first | (go_keep; done) | (simp [World.cell?_setCell_far, *]; done)) (fail)
  have hC3 : Blk ((((((((w2.setCell ⟨g0, 0, none⟩ (.int .u32 (p.M : Nat))).setCell ⟨g0, 1, none⟩ (.int .u32 (p.B : Nat))).setCell ⟨g0, 2, none⟩ (.int .u64 (p.E : Nat))).setCell ⟨g0, 3, none⟩ (.int .i64 (p.ptr : Nat))).setCell ⟨g0, 4, none⟩ (.int .u64 (p.load : Nat))).setCell ⟨g0, 5, none⟩ (.int .u64 (p.hdr : Nat))).setCell ⟨g0, 6, none⟩ (.slice none 0 0)).drew) g0 39 _ := ((((((((HX.out.2.2.2.1.set_ 0 (.int .u32 (p.M : Nat))).set_ 1 (.int .u32 (p.B : Nat))).set_ 2 (.int .u64 (p.E : Nat))).set_ 3 (.int .i64 (p.ptr : Nat))).set_ 4 (.int .u64 (p.load : Nat))).set_ 5 (.int .u64 (p.hdr : Nat))).set_ 6 (.slice none 0 0))).drewN 1
  have hK3 : Keeps (fun b => b = g0) w2 ((((((((w2.setCell ⟨g0, 0, none⟩ (.int .u32 (p.M : Nat))).setCell ⟨g0, 1, none⟩ (.int .u32 (p.B : Nat))).setCell ⟨g0, 2, none⟩ (.int .u64 (p.E : Nat))).setCell ⟨g0, 3, none⟩ (.int .i64 (p.ptr : Nat))).setCell ⟨g0, 4, none⟩ (.int .u64 (p.load : Nat))).setCell ⟨g0, 5, none⟩ (.int .u64 (p.hdr : Nat))).setCell ⟨g0, 6, none⟩ (.slice none 0 0)).drew) := (((((((((Keeps.refl (fun b => b = g0) w2).setCell (p := ⟨g0, 0, none⟩) (fun _ => rfl) (.int .u32 (p.M : Nat))).setCell (p := ⟨g0, 1, none⟩) (fun _ => rfl) (.int .u32 (p.B : Nat))).setCell (p := ⟨g0, 2, none⟩) (fun _ => rfl) (.int .u64 (p.E : Nat))).setCell (p := ⟨g0, 3, none⟩) (fun _ => rfl) (.int .i64 (p.ptr : Nat))).setCell (p := ⟨g0, 4, none⟩) (fun _ => rfl) (.int .u64 (p.load : Nat))).setCell (p := ⟨g0, 5, none⟩) (fun _ => rfl) (.int .u64 (p.hdr : Nat))).setCell (p := ⟨g0, 6, none⟩) (fun _ => rfl) (.slice none 0 0))).drew
  clear c0 c1 c2 c3 c4 c5 c6 z0 z1 z2 z3 z4 z5 z6 f0 f1 f2 f3 f4 f5 f6
  generalize (((((((w2.setCell ⟨g0, 0, none⟩ (.int .u32 (p.M : Nat))).setCell ⟨g0, 1, none⟩ (.int .u32 (p.B : Nat))).setCell ⟨g0, 2, none⟩ (.int .u64 (p.E : Nat))).setCell ⟨g0, 3, none⟩ (.int .i64 (p.ptr : Nat))).setCell ⟨g0, 4, none⟩ (.int .u64 (p.load : Nat))).setCell ⟨g0, 5, none⟩ (.int .u64 (p.hdr : Nat))).setCell ⟨g0, 6, none⟩ (.slice none 0 0)).drew = w3 at hC3 hK3 ⊢
  simp only [List.setIfInBounds_toArray, List.set_cons_succ, List.set_cons_zero] at hC3
  have hF3 := HX.out.1.keeps hK3 (fun h => by
    have h' : gf = g0 := h
    omega)
  have hS3 := HX.out.2.1.keeps hK3 (fun b hb h => by
    have h' : b = g0 := h
    omega) (fun h => by
    have h' : ga = g0 := h
    omega)
  have hR3 := HX.out.2.2.1.keeps hK3 (fun h => by
    have h' : gr = g0 := h
    omega)
  have hC3' := HX.out.2.2.2.2.1.keeps hK3 (fun h => by
    have h' : g0 + 1 = g0 := h
    omega)
  have hk3 : Below g0 w w3 := HX.out.2.2.2.2.2.1.trans (hK3.below (by omega) (fun i h => by
    have h' : i = g0 := h
    omega))
  have f6 := hF3.cell 6
  simp only [List.getElem?_toArray, List.getElem?_cons_zero, List.getElem?_cons_succ] at f6
  go_wp2_with fail
  have H3 := Lib.hid (show _ ∧ _ ∧ _ ∧ _ ∧ _ ∧ _ from ⟨hC3, hF3, hS3, hR3, hC3', hk3⟩)
  have HK3 := Lib.hid hK3
  have hz3 := hK3.size
  clear hC3 hF3 hS3 hR3 hC3' hk3 f6 hK3
  go_loopw [7, 56] (fun _ i wr => ∃ (k : Nat), k ≤ 5 ∧ i = .int .i64 k ∧ ToldOf p g0 w3.heap.size k wr ∧ Keeps (fun b => b = g0 ∨ w3.heap.size ≤ b) w3 wr) (fun _ i _ => 5 - (intOf i).toNat)
  case atStart => exact ⟨0, by omega, rfl, ⟨none, 0, [], rfl, H3.out.1, World.ownsRow_nil _ _ _ _, fun j x hx => by simp at hx⟩, Keeps.refl _ _⟩
  case round =>
    obtain ⟨k, hk5, rfl, htold, hkk⟩ := hrel
    have HT := Lib.hid (show _ ∧ _ from ⟨htold, hkk⟩)
    have hszr := hkk.size
    have hk3 : (0 : Int) ≤ (k : Int) := by omega
    clear htold hkk
    by_cases hlt : k < 5
    · obtain ⟨gxs, hgl, hga5, hsec⟩ := H3.out.2.2.1
      have hgx : gxs[k]? = some gxs[k] := List.getElem?_eq_getElem (by omega)
      have hnm : secNames[k]? = some secNames[k] := List.getElem?_eq_getElem hlt
      have hq : p.pieces[k]? = some p.pieces[k] := List.getElem?_eq_getElem hlt
      have hm : [p.T.l.length, p.D.l.length, p.S.l.length, p.P.l.length, p.Q.l.length][k]? = some (p.pieces[k]).l.length := by
        match k, hlt with
        | 0, _ => rfl
        | 1, _ => rfl
        | 2, _ => rfl
        | 3, _ => rfl
        | 4, _ => rfl
      obtain ⟨hgx1, gs, hgs1, hX, hSR⟩ := hsec k _ _ _ hgx hnm hm
      have hpc : w3.cell? ⟨ga, k, none⟩ = some (.pointer (some ⟨gxs[k], 0, none⟩)) := by
        rw [hga5.cell, List.getElem?_toArray, List.getElem?_append_left (by simp; omega), List.getElem?_map, hgx]; rfl
      generalize gxs[k] = gx at hgx hX hpc hgx1
      generalize secNames[k] = nm at hnm hX
      generalize p.pieces[k] = q at hq hm hX hSR
      have hne : ∀ b, gr ≤ b → b < w3.heap.size → ¬ (b = g0 ∨ w3.heap.size ≤ b) := fun b h1 h2 h3 => by omega
      have hXr := hX.keeps HT.out.2 (hne gx hgx1 hX.lt)
      have hSRr := hSR.keeps HT.out.2 (hne gs hgs1 hSR.lt)
      have hRr := H3.out.2.2.2.1.keeps HT.out.2 (hne gr (Nat.le_refl _) H3.out.2.2.2.1.lt)
      have hga5r := hga5.keeps HT.out.2 (hne ga hga hga5.lt)
      have hpcr : wr.cell? ⟨ga, k, none⟩ = some (.pointer (some ⟨gx, 0, none⟩)) := (HT.out.2.cell (p := ⟨ga, k, none⟩) hga5.lt (hne ga hga hga5.lt)).trans hpc
      have HXR := Lib.hid (show _ ∧ _ ∧ _ from ⟨hXr, hSRr, hRr⟩)
      have hgxl := hX.lt
      clear hXr hSRr hRr hga5r hga5 hsec hX hSR hpc
      go_wp2_with fail
      have hd := p.data_at k q hq
      have hoff : offAt p.hdr p.lens k + q.l.length ≤ p.bytes.length := by
        have h1 := offAt_succ p.hdr p.lens k q.l.length hm
        have h2 := offAt_le p.hdr p.lens (k + 1)
        have h3 := p.bytes_length
        have h4 : p.lens.sum = p.T.l.length + (p.D.l.length + (p.S.l.length + (p.P.l.length + (p.Q.l.length + 0)))) := rfl
        omega
      have hE3 : Eofs w3 := hE.below (HG0.out ▸ H3.out.2.2.2.2.2)
      have hEr : Eofs wr := by
        obtain ⟨⟨a, ha⟩, ⟨b, hb⟩⟩ := id hE
        have l1 := World.block_lt_of_cell? w _ ha
        have l2 := World.block_lt_of_cell? w _ hb
        have h0 := HG0.out
        refine hE3.keeps HT.out.2 (fun h => ?_) (fun h => ?_)
        · have h' : 2 = g0 ∨ w3.heap.size ≤ 2 := h
          have l1' : 2 < w.heap.size := l1
          omega
        · have h' : 1 = g0 ∨ w3.heap.size ≤ 1 := h
          have l2' : 1 < w.heap.size := l2
          omega
      have hb3 : Bs w3 A' p.bytes := HX.out.2.2.2.2.2.2.keeps HK3.out (fun b o h _ h2 => by
        have h2' : b = g0 := h2
        have := hA' b o h
        omega)
      have hbr : Bs wr A' p.bytes := hb3.keeps HT.out.2 (fun b o h hlt2 h2 => by
        have h2' : b = g0 ∨ w3.heap.size ≤ b := h2
        have := hA' b o h
        omega)
      refine (secData_any nm gx gs gr (offAt p.hdr p.lens k) (offAt p.hdr p.lens k) q.l.length c' (q.l.length : Nat) _ _ A' p.bytes wr hEr HXR.out.1 HXR.out.2.1 HXR.out.2.2 hbr hoff (by omega) hc1 (by omega)).mono ?_
      rintro e w4 ⟨gd, hgd, rfl, hbd, hbel4⟩
      rw [hd] at hbd
      go_wp2_with fail
      have hX4 := HXR.out.1.below hbel4 HXR.out.1.lt
      have x0 : w4.cell? ⟨gx, 0, none⟩ = some (.string nm) := hX4.cell 0
      have x1 : w4.cell? ⟨gx, 1, none⟩ = some (.int .u32 (q.l.length : Nat)) := hX4.cell 1
      have x2 : w4.cell? ⟨gx, 2, none⟩ = some (.int .u32 (offAt p.hdr p.lens k : Nat)) := hX4.cell 2
      refine wp_region_noPanic ?_
      refine wp_region_held_drew (S := fun w' => w'.cell? ⟨gx, 0, none⟩ = some (.string nm) ∧ w'.cell? ⟨gx, 1, none⟩ = some (.int .u32 (q.l.length : Nat)) ∧ w'.cell? ⟨gx, 2, none⟩ = some (.int .u32 (offAt p.hdr p.lens k : Nat))) (by kernel_rfl) ⟨x0, x1, x2⟩ (fun hHeld => ?_)
      refine takeT 0 rfl rfl (by kernel_rfl) (by kernel_rfl) (by kernel_rfl) (fun _ _ _ h => h) hHeld rfl (fun W hW => by obtain ⟨e1, e2, e3⟩ := hW; go_simp; rfl) ?_
      simp only [List.set_cons_zero, List.set_cons_succ]
      refine takeT 2 rfl rfl (by kernel_rfl) (by kernel_rfl) (by kernel_rfl) (fun _ _ _ h => h) hHeld rfl (fun W hW => by obtain ⟨e1, e2, e3⟩ := hW; go_simp; rfl) ?_
      simp only [List.set_cons_zero, List.set_cons_succ]
      refine takeT 3 rfl rfl (by kernel_rfl) (by kernel_rfl) (by kernel_rfl) (fun _ _ _ h => h) hHeld rfl (fun W hW => by obtain ⟨e1, e2, e3⟩ := hW; go_simp; rfl) ?_
      simp only [List.set_cons_zero, List.set_cons_succ]
      refine takeT 4 rfl rfl (by kernel_rfl) (by kernel_rfl) (by kernel_rfl) (fun _ _ _ h => h) hHeld rfl (fun W hW => by obtain ⟨e1, e2, e3⟩ := hW; go_simp; rfl) ?_
      simp only [List.set_cons_zero, List.set_cons_succ]
      refine takeT 5 rfl rfl (by kernel_rfl) (by kernel_rfl) (by kernel_rfl) (fun _ _ _ h => h) hHeld rfl (fun W hW => by obtain ⟨e1, e2, e3⟩ := hW; go_simp; rfl) ?_
      simp only [List.set_cons_zero, List.set_cons_succ]
      refine takeT 6 rfl rfl (by kernel_rfl) (by kernel_rfl) (by kernel_rfl) (fun _ _ _ h => h) hHeld rfl (fun W hW => by obtain ⟨e1, e2, e3⟩ := hW; go_simp; rfl) ?_
      simp only [List.set_cons_zero, List.set_cons_succ]
      refine takeT 7 rfl rfl (by kernel_rfl) (by kernel_rfl) (by kernel_rfl) (fun _ _ _ h => h) hHeld rfl (fun W hW => by obtain ⟨e1, e2, e3⟩ := hW; go_simp; rfl) ?_
      simp only [List.set_cons_zero, List.set_cons_succ]
      refine takeT 8 rfl rfl (by kernel_rfl) (by kernel_rfl) (by kernel_rfl) (fun _ _ _ h => h) hHeld rfl (fun W hW => by obtain ⟨e1, e2, e3⟩ := hW; go_simp; rfl) ?_
      simp only [List.set_cons_zero, List.set_cons_succ]
      refine takeT 9 rfl rfl (by kernel_rfl) (by kernel_rfl) (by kernel_rfl) (fun _ _ _ h => h) hHeld rfl (fun W hW => by obtain ⟨e1, e2, e3⟩ := hW; go_simp; rfl) ?_
      simp only [List.set_cons_zero, List.set_cons_succ]
      refine takeT 10 rfl rfl (by kernel_rfl) (by kernel_rfl) (by kernel_rfl) (fun _ _ _ h => h) hHeld rfl (fun W hW => by obtain ⟨e1, e2, e3⟩ := hW; go_simp; rfl) ?_
      simp only [List.set_cons_zero, List.set_cons_succ]
      refine takeT 11 rfl rfl (by kernel_rfl) (by kernel_rfl) (by kernel_rfl) (fun _ _ _ h => h) hHeld rfl (fun W hW => by obtain ⟨e1, e2, e3⟩ := hW; go_simp; rfl) ?_
      simp only [List.set_cons_zero, List.set_cons_succ]
      refine takeT 12 rfl rfl (by kernel_rfl) (by kernel_rfl) (by kernel_rfl) (fun _ _ _ h => h) hHeld rfl (fun W hW => by obtain ⟨e1, e2, e3⟩ := hW; go_simp; rfl) ?_
      simp only [List.set_cons_zero, List.set_cons_succ]
      refine takeT 13 rfl rfl (by kernel_rfl) (by kernel_rfl) (by kernel_rfl) (fun _ _ _ h => h) hHeld rfl (fun W hW => by obtain ⟨e1, e2, e3⟩ := hW; go_simp; rfl) ?_
      simp only [List.set_cons_zero, List.set_cons_succ]
      refine takeT 14 rfl rfl (by kernel_rfl) (by kernel_rfl) (by kernel_rfl) (fun _ _ _ h => h) hHeld rfl (fun W hW => by obtain ⟨e1, e2, e3⟩ := hW; go_simp; rfl) ?_
      simp only [List.set_cons_zero, List.set_cons_succ]
      refine takeT 15 rfl rfl (by kernel_rfl) (by kernel_rfl) (by kernel_rfl) (fun _ _ _ h => h) hHeld rfl (fun W hW => by obtain ⟨e1, e2, e3⟩ := hW; go_simp; rfl) ?_
      simp only [List.set_cons_zero, List.set_cons_succ]
      refine takeT 16 rfl rfl (by kernel_rfl) (by kernel_rfl) (by kernel_rfl) (fun _ _ _ h => h) hHeld rfl (fun W hW => by obtain ⟨e1, e2, e3⟩ := hW; go_simp; rfl) ?_
      simp only [List.set_cons_zero, List.set_cons_succ]
      refine takeT 17 rfl rfl (by kernel_rfl) (by kernel_rfl) (by kernel_rfl) (fun _ _ _ h => h) hHeld rfl (fun W hW => by obtain ⟨e1, e2, e3⟩ := hW; go_simp; rfl) ?_
      simp only [List.set_cons_zero, List.set_cons_succ]
      obtain ⟨Ao, co, xs, hxl, hBo, hOo, hxs⟩ := HT.out.1
      have hz4 : wr.heap.size ≤ w4.heap.size := hbel4.size
      have hAw : ∀ g, Ao.map (·.block) = some g → g < wr.heap.size := fun g hg => (hOo.lt g (by
        cases hA : Ao with
        | none => rw [hA] at hg; cases hg
        | some a => rw [hA] at hg; simpa [Value.ownBlock] using hg)).2
      have hO4 : w4.drew.ownsRow w3.heap.size 79 4 (.slice Ao k co) k (sxCells xs) := own_keeps hOo (Keeps.of_below hbel4 (fun _ => False)).drew (fun _ _ h => h)
      have hB4 : Blk w4.drew g0 39 _ := (hBo.below hbel4 hBo.lt).drewN 1
      have hbd4 : Bs w4.drew (some ⟨gd, 0, none⟩) q.l := hbd
      have HXS := Lib.hid (show _ ∧ _ from ⟨hxl, hxs⟩)
      clear hxl hxs hBo hOo hbd
      have hz5 : w4.heap.size ≤ w4.drew.heap.size := Nat.le_refl _
      generalize hW0 : w4.drew = W0 at *
      generalize hH : W0.heap.size = H at *
      obtain ⟨R0, hR0⟩ : ∃ R0 : Option Nat, R0 = Ao.map (·.block) := ⟨_, rfl⟩
      have hr0 : ∀ b o, Ao = some ⟨b, o, none⟩ → R0 = some b := fun b o he => by rw [hR0, he]; rfl
      have q0 : ∀ g, R0 = some g → w3.heap.size ≤ g ∧ g < H ∧ ∃ cur, W0.heap[g]? = some (.cells cur 79 (0, 0)) := fun g hg => by
        rw [hR0] at hg
        cases hB : Ao with
        | none => rw [hB] at hg; cases hg
        | some a =>
          obtain ⟨b, o, sp⟩ := a
          rw [hB] at hg
          have hbg : b = g := by simpa using hg
          rcases hO4.2 with ⟨hv, _⟩ | ⟨g', cap, cur, hv, hbb, hh, _⟩
          · rw [hB] at hv; cases hv
          · rw [hB] at hv
            injection hv with e1
            injection e1 with e1
            injection e1 with e1 e2 e3
            subst e1 hbg
            exact ⟨hbb, hH ▸ (Array.getElem?_eq_some_iff.1 hh).1, cur, hh⟩
      obtain ⟨R, hR⟩ : ∃ R : Nat → Option Nat, R = fun i => if i = 21 then R0 else none := ⟨_, rfl⟩
      have hRn : ∀ i, i ≠ 21 → R i = none := fun i h1 => by rw [hR]; simp [h1]
      have hR21 : R 21 = R0 := by rw [hR]; rfl
      have hRall : ∀ i g, R i = some g → w3.heap.size ≤ g ∧ g < H := fun i g hg => by
        by_cases h4 : i = 21
        · subst h4; rw [hR21] at hg; exact ⟨(q0 g hg).1, (q0 g hg).2.1⟩
        · rw [hRn i h4] at hg; cases hg
      refine wpAnyH_rows R H [rjob R 1 [] (fun _ => True) (fun v _ => v = .slice Ao k co), rjob R 18 [] (fun _ => True) (OwnAt H H 5 none q.l.length (bvs q.l)), rjob R 19 [18] (fun _ => True) (fun v w => ∃ x, OwnAt H H 5 none q.l.length (bvs q.l) x w ∧ v = .agg #[.string nm, .int .u32 (q.l.length : Nat), .int .u32 (offAt p.hdr p.lens k : Nat), x]), rjob R 20 [19] (fun _ => True) (fun v w => ∃ x, OwnAt H H 5 none q.l.length (bvs q.l) x w ∧ FreshN H 79 [.string nm, .int .u32 (q.l.length : Nat), .int .u32 (offAt p.hdr p.lens k : Nat), x] v w), rjob R 21 [1, 20] (fun W => W.ownsRow w3.heap.size 79 4 (.slice Ao k co) k (sxCells xs)) (fun v w => ∃ x, OwnAt H H 5 none q.l.length (bvs q.l) x w ∧ OwnN H w3.heap.size 79 4 R0 (k + 1) (sxCells xs ++ [.string nm, .int .u32 (q.l.length : Nat), .int .u32 (offAt p.hdr p.lens k : Nat), x]) v w)] 2 24 (by kernel_rfl) rfl (by kernel_rfl) (fun w' hw' => ?_) (fun i g hg => (hRall i g hg).2) ?_ ?_ ?_ ?_ ?_
      · have hnR : ¬ ∃ i, R i = some gx := fun ⟨i, hi⟩ => by have := (hRall i gx hi).1; omega
        have hlt0 : gx < W0.heap.size := by rw [hH]; omega
        exact ⟨(hw'.cell (p := ⟨gx, 0, none⟩) hlt0 hnR).trans hHeld.1, (hw'.cell (p := ⟨gx, 1, none⟩) hlt0 hnR).trans hHeld.2.1, (hw'.cell (p := ⟨gx, 2, none⟩) hlt0 hnR).trans hHeld.2.2⟩
      · intro i j g hij hi hj
        by_cases h4 : i = 21
        · rw [hRn j (fun e => hij (h4.trans e.symm))] at hj; cases hj
        · rw [hRn i h4] at hi; cases hi
      · intro p' hp
        simp only [List.mem_cons, List.not_mem_nil, or_false] at hp
        rcases hp with rfl | rfl | rfl | rfl | rfl
        · exact ⟨rfl, About.true_ _ _, fun v => About.const _ _ _⟩
        · exact ⟨rfl, About.true_ _ _, fun v => (by show About H (R 18) _; rw [hRn 18 (by decide)]; exact OwnAt.about _ _ _ _ _ _ v)⟩
        · exact ⟨rfl, About.true_ _ _, fun v => (by
            show About H (R 19) _
            rw [hRn 19 (by decide)]
            exact fun w w' r' hr he ⟨x, h1, h2⟩ => ⟨x, OwnAt.about _ _ _ _ _ _ x w w' r' hr he h1, h2⟩)⟩
        · exact ⟨rfl, About.true_ _ _, fun v => (by
            show About H (R 20) _
            rw [hRn 20 (by decide)]
            exact fun w w' r' hr he ⟨x, h1, h2⟩ => ⟨x, OwnAt.about _ _ _ _ _ _ x w w' r' hr he h1, FreshN.about _ _ _ _ v w w' r' hr he h2⟩)⟩
        · exact ⟨rfl, (by show About H (R 21) _; rw [hR21]; exact pre_aboutN H _ 79 4 k _ Ao co R0 hr0), fun v => (by
            show About H (R 21) _
            rw [hR21]
            exact fun w w' r' hr he ⟨x, h1, h2⟩ => ⟨x, OwnAt.about _ _ _ _ _ _ x w w' r' (fun g hg => ⟨(hr g hg).1, fun h => by cases h⟩) he h1, OwnN.about _ _ _ _ _ _ _ v w w' r' hr he h2⟩)⟩
      · intro p' hp
        simp only [List.mem_cons, List.not_mem_nil, or_false] at hp
        rcases hp with rfl | rfl | rfl | rfl | rfl
        · exact trivial
        · exact trivial
        · exact trivial
        · exact trivial
        · exact hO4
      · intro p' hp vs W hW hpre hq'
        have hszW : H ≤ W.heap.size := hH ▸ hW.size
        simp only [List.forall_mem_cons, rjob] at hq'
        obtain ⟨p1, p18, p19, p20, p21, _⟩ := hq'
        simp only [List.mem_cons, List.not_mem_nil, or_false] at hp
        rcases hp with rfl | rfl | rfl | rfl | rfl
        · refine doesAt_deps [] rfl ?_
          have hcw : W.cell? ⟨g0, 6, none⟩ = some (.slice Ao k co) := (hB4.keeps hW (fun ⟨i, hi⟩ => by have := (hRall i _ hi).1; omega)).cell 6
          exact does_value 1 rfl rfl rfl (by rw [puts_none]; go_simp) (Eff.refl _ _) rfl
        · refine doesAt_deps [] rfl ?_
          rw [puts_none]
          refine does_enter 18 rfl rfl rfl (by go_simp) ((copied_any (some ⟨gd, 0, none⟩) q.l q.l.length W (fun hne' => hbd4.keeps hW (fun b o he hlt' ⟨i, hi⟩ => ?_) hne') (by omega)).mono ?_)
          · have hi21 : i = 21 := by
              by_cases h4 : i = 21
              · exact h4
              · rw [hRn i h4] at hi; cases hi
            subst hi21
            rw [hR21, hR0] at hi
            injection he with he
            injection he with e1
            have := hAw b hi
            omega
          · rintro e w' ⟨A5, c5, rfl, ho5, hb5⟩
            refine ⟨_, rfl, (by show Eff (R 18) _ _; rw [hRn 18 (by decide)]; exact Eff.none_ hb5), A5, c5, rfl, ownsRow_base ho5 hszW, fun b o he => .inr (by have := (own_lo ho5 b o he).1; omega)⟩
        · refine doesAt_deps [18] rfl ?_
          obtain ⟨A5, c5, e5, o5, a5⟩ := p18 (by simp [rjob])
          rw [puts_lit vs 18 85 [] _ _ rfl, puts_none, e5]
          simp only [List.set_cons_zero, List.set_cons_succ]
          exact does_value 19 rfl rfl rfl (by go_simp) (Eff.refl _ _) ⟨_, ⟨A5, c5, rfl, o5, a5⟩, rfl⟩
        · refine doesAt_deps [19] rfl ?_
          obtain ⟨x, ⟨A5, c5, rfl, o5, a5⟩, e19⟩ := p19 (by simp [rjob])
          rw [puts_lit vs 19 86 [] _ _ rfl, puts_none, e19]
          simp only [List.set_cons_zero, List.set_cons_succ]
          exact does_value 20 rfl rfl rfl (by go_simp) (Eff.alloc _ _ _) ⟨_, ⟨A5, c5, rfl, o5.alloc _, a5⟩, W.heap.size, rfl, hszW, Blk.new W _ _⟩
        · refine doesAt_deps [1, 20] rfl ?_
          have el : vs 1 = .slice Ao k co := p1 (by simp [rjob])
          obtain ⟨x, ⟨A5, c5, rfl, o5, a5⟩, g, eg, hgH, hgB⟩ := p20 (by simp [rjob])
          rw [puts_lit vs 1 68 [20] _ _ rfl, puts_lit vs 20 87 [] _ _ rfl, puts_none, el, eg]
          simp only [List.set_cons_zero, List.set_cons_succ]
          refine doesAt_mono (p0 := rjob R 21 [1, 20] (fun W => W.ownsRow w3.heap.size 79 4 (.slice Ao k co) k (sxCells xs)) (OwnN H w3.heap.size 79 4 R0 (k + 1) (sxCells xs ++ [Value.string nm, Value.int .u32 (q.l.length : Nat), Value.int .u32 (offAt p.hdr p.lens k : Nat), Value.slice A5 q.l.length c5]))) ?_ rfl rfl (fun v w' he h => ⟨_, OwnAt.about _ _ _ _ _ _ _ W w' R0 (fun g hg => ⟨(q0 g hg).2.1, fun h => by cases h⟩) (by rw [← hR21]; exact he) ⟨A5, c5, rfl, o5, a5⟩, h⟩)
          exact does_append_lies 21 rfl rfl rfl (.tmp 68) (.tmp 87) 37 rfl w3.heap.size 79 i0 _ 4 48 Tryd.underlying37 HI.out.1 HI.out.2.1 HI.out.2.2.1 HI.out.2.2.2 rfl (by omega) Ao k co (sxCells xs) rfl hpre g [.string nm, .int .u32 (q.l.length : Nat), .int .u32 (offAt p.hdr p.lens k : Nat), .slice A5 q.l.length c5] 79 rfl hgB (by rfl) (by simp [Value.oneCell']) (by simp only [maxLen]; omega) (by omega) (by omega) R0 hr0 (by show Eff (R 21) = _; rw [hR21]) H hszW (fun v w' h => h)
      · intro vs W hW hpost
        simp only [List.forall_mem_cons, rjob] at hpost
        obtain ⟨p1, p18, p19, p20, p21, _⟩ := hpost
        obtain ⟨A5, c5, e5, _, _⟩ := p18
        obtain ⟨x4, _, e19⟩ := p19
        obtain ⟨x5, _, g5, e20, _, _⟩ := p20
        obtain ⟨x6, ⟨A6, c6, rfl, o6, _⟩, B6, cb6, e21, o21, _⟩ := p21
        refine putsT 1 68 rfl (putsT 18 85 rfl (putsT 19 86 rfl (putsT 20 87 rfl (putsT 21 88 rfl (putsN ?_)))))
        rw [p1, e5, e19, e20, e21]
        simp only [List.set_cons_zero, List.set_cons_succ]
        have hnR : ¬ ∃ i, R i = some gx := fun ⟨i, hi⟩ => by have := (hRall i gx hi).1; omega
        have hlt0 : gx < W0.heap.size := by rw [hH]; omega
        have s0 : W.cell? ⟨gx, 0, none⟩ = some (.string nm) ∧ W.cell? ⟨gx, 1, none⟩ = some (.int .u32 (q.l.length : Nat)) ∧ W.cell? ⟨gx, 2, none⟩ = some (.int .u32 (offAt p.hdr p.lens k : Nat)) :=
          ⟨(hW.cell (p := ⟨gx, 0, none⟩) hlt0 hnR).trans hHeld.1, (hW.cell (p := ⟨gx, 1, none⟩) hlt0 hnR).trans hHeld.2.1, (hW.cell (p := ⟨gx, 2, none⟩) hlt0 hnR).trans hHeld.2.2⟩
        have y2 := hB4.keeps hW (fun ⟨i, hi⟩ => by have := (hRall i _ hi).1; omega)
        have z2 := y2.cell 6
        have f2 := y2.frozen 6
        simp only [List.getElem?_toArray, List.getElem?_cons_zero, List.getElem?_cons_succ] at z2
        have x2 := y2.set_ 6 (.slice B6 (k + 1) cb6)
        have kk : Keeps (fun b => b = g0) W _ := (Keeps.refl (fun b => b = g0) W).setCell (p := ⟨g0, 6, none⟩) (fun _ => rfl) (.slice B6 (k + 1) cb6)
        have hltW : gx < W.heap.size := Nat.lt_of_lt_of_le hlt0 hW.size
        have hxg : ¬ gx = g0 := by omega
        have s1 := Lib.hid (show (W.setCell ⟨g0, 6, none⟩ (.slice B6 (k + 1) cb6)).cell? ⟨gx, 0, none⟩ = some (.string nm) ∧ (W.setCell ⟨g0, 6, none⟩ (.slice B6 (k + 1) cb6)).cell? ⟨gx, 1, none⟩ = some (.int .u32 (q.l.length : Nat)) ∧ (W.setCell ⟨g0, 6, none⟩ (.slice B6 (k + 1) cb6)).cell? ⟨gx, 2, none⟩ = some (.int .u32 (offAt p.hdr p.lens k : Nat)) from
          ⟨(kk.cell (p := ⟨gx, 0, none⟩) hltW hxg).trans s0.1, (kk.cell (p := ⟨gx, 1, none⟩) hltW hxg).trans s0.2.1, (kk.cell (p := ⟨gx, 2, none⟩) hltW hxg).trans s0.2.2⟩)
        have HS0 := Lib.hid s0
        have HXX := Lib.hid (show Blk _ _ _ _ ∧ Keeps _ _ _ from ⟨x2, kk⟩)
        have HOO := Lib.hid (show _ ∧ _ from ⟨o21, o6⟩)
        have HWW := Lib.hid hW
        have HRA := Lib.hid hRall
        have HQ0 := Lib.hid q0
        clear s0 x2 kk o21 o6 hW hRall q0 e5 e19 e20 e21 p1 y2
        refine wpAnyH_ready (rs := [22]) (by kernel_rfl) (by simp) (AllReadyH.cons (i := 22) rfl (fun K hK => ?_) AllReadyH.nil)
        go_simp
        refine hK.out _ _ HS0.out (fun _ => ?_)
        clear hK K
        refine wpAnyH_ready (rs := [23]) (by kernel_rfl) (by simp) (AllReadyH.cons (i := 23) rfl (fun K hK => ?_) AllReadyH.nil)
        go_simp
        refine hK.out _ _ s1.out (fun _ => ?_)
        clear hK K
        refine wpAnyH_done (by kernel_rfl) ?_ _
        refine NoPanic.normal ?_
        clear s1 HS0
        generalize W.setCell ⟨g0, 6, none⟩ (.slice B6 (k + 1) cb6) = W9 at HXX ⊢
        clear z2 f2
        have hgs : g0 < w3.heap.size := H3.out.1.lt
        have htold : ToldOf p g0 w3.heap.size (k + 1) W9 := by
          obtain ⟨x2, kk⟩ := HXX.out
          obtain ⟨o21, o6⟩ := HOO.out
          have hK1 := HWW.out
          obtain ⟨hxl, hxs⟩ := HXS.out
          have hlow : ∀ {e sz n : Nat} {A : Option Addr} {c : Nat} {ys : List Value}, W.ownsRow w3.heap.size e sz (.slice A n c) n ys → W9.ownsRow w3.heap.size e sz (.slice A n c) n ys := fun {e sz n A c ys} ho => own_keeps ho kk (fun g hg h => by
            have h' : g = g0 := h
            have := own_base ho g hg
            omega)
          have hlen1 : (xs ++ [(⟨nm, q.l.length, offAt p.hdr p.lens k, ⟨A6, q.l, c6⟩⟩ : Sx)]).length = k + 1 := by simp [hxl]
          refine ⟨B6, cb6, xs ++ [⟨nm, q.l.length, offAt p.hdr p.lens k, ⟨A6, q.l, c6⟩⟩], hlen1, x2, ?_, ?_⟩
          · rw [sxCells_snoc]; exact hlow o21
          · intro j x hj
            by_cases hjk : j < k
            · rw [List.getElem?_append_left (by omega)] at hj
              obtain ⟨h1, h2, h3, h4⟩ := hxs j x hj
              refine ⟨h1, h2, h3, ?_⟩
              have h5 : W0.ownsRow w3.heap.size 5 1 x.d.val x.d.l.length (bvs x.d.l) := hW0 ▸ own_keeps h4 (Keeps.of_below hbel4 (fun _ => False)).drew (fun _ _ h => h)
              refine hlow (own_keeps (show W0.ownsRow w3.heap.size 5 1 (.slice x.d.A x.d.l.length x.d.c) x.d.l.length (bvs x.d.l) from h5) hK1 (fun g hg ⟨i, hi⟩ => ?_))
              have hi21 : i = 21 := by
                by_cases h4 : i = 21
                · exact h4
                · rw [hRn i h4] at hi; cases hi
              subst hi21
              rw [hR21] at hi
              obtain ⟨_, _, cur, hcur⟩ := HQ0.out g hi
              rcases h5.2 with ⟨hv, _⟩ | ⟨g', cap, cur', hv, hb, hg', _⟩
              · have hv' : Value.slice x.d.A x.d.l.length x.d.c = .slice none 0 0 := hv
                rw [hv'] at hg; simp [Value.ownBlock] at hg
              · have hv' : Value.slice x.d.A x.d.l.length x.d.c = _ := hv
                rw [hv'] at hg
                have : g' = g := by simpa [Value.ownBlock] using hg
                subst this
                exact blk_ne hcur hg' (by decide) rfl
            · have hjl := (List.getElem?_eq_some_iff.1 hj).1
              obtain rfl : j = k := by omega
              rw [List.getElem?_append_right (by omega), hxl, Nat.sub_self] at hj
              simp at hj
              subst hj
              exact ⟨⟨q, hq, rfl, rfl⟩, hnm, rfl, hlow (ownsRow_base o6 (by omega))⟩
        have hkall : Keeps (fun b => b = g0 ∨ w3.heap.size ≤ b) w3 W9 :=
          ((HT.out.2.trans (hW0 ▸ (Keeps.of_below hbel4 (fun b => b = g0 ∨ w3.heap.size ≤ b)).drew)).trans (HWW.out.mono (fun i ⟨j, hj⟩ => .inr (HRA.out j i hj).1))).trans (HXX.out.2.mono (fun i h => .inl h))
        have HCOP := Lib.hid htold
        have HKALL := Lib.hid hkall
        clear htold hkall HXX HOO HWW HRA HQ0 hRn hR21 hR hr0 hR0
        go_wp2_with fail
        exact ⟨⟨k + 1, by omega, by go_num, HCOP.out, HKALL.out⟩, by simp [intOf]; omega⟩
    · obtain rfl : k = 5 := by omega
      obtain ⟨Ao, co, xs, hxl, hBo, hOo, hxs⟩ := HT.out.1
      have hz9 := HT.out.2.size
      have hC'l := H3.out.2.2.2.2.1.lt
      have hC'r := H3.out.2.2.2.2.1.keeps HT.out.2 (fun h => by
        have h' : g0 + 1 = g0 ∨ w3.heap.size ≤ g0 + 1 := h
        omega)
      have hkr : Below g0 w wr := H3.out.2.2.2.2.2.trans (HT.out.2.below (by omega) (fun i h => by
        have h' : i = g0 ∨ w3.heap.size ≤ i := h
        omega))
      have hone : (#[.int .u32 (p.M : Nat), .int .u32 (p.B : Nat), .int .u64 (p.E : Nat), .int .i64 (p.ptr : Nat), .int .u64 (p.load : Nat), .int .u64 (p.hdr : Nat), .slice Ao 5 co] : Array Value).all (·.oneCell') = true := by simp [Value.oneCell']
      have HI9 : (Tryd.prog.info? 39).map (·.size) = some (#[.int .u32 (p.M : Nat), .int .u32 (p.B : Nat), .int .u64 (p.E : Nat), .int .i64 (p.ptr : Nat), .int .u64 (p.load : Nat), .int .u64 (p.hdr : Nat), .slice Ao 5 co] : Array Value).size := by kernel_rfl
      generalize hcs : (#[.int .u32 (p.M : Nat), .int .u32 (p.B : Nat), .int .u64 (p.E : Nat), .int .i64 (p.ptr : Nat), .int .u64 (p.load : Nat), .int .u64 (p.hdr : Nat), .slice Ao 5 co] : Array Value) = cs at hBo hone HI9
      have HCS := Lib.hid hcs
      have HH9 := Lib.hid hone
      have HJ9 := Lib.hid HI9
      have c1b := hC'r.cell 0
      have f1b := hC'r.frozen 0
      simp only [List.getElem?_toArray, List.getElem?_cons_zero] at c1b
      have HOX := Lib.hid (show _ ∧ _ ∧ _ from ⟨hxl, hOo, hxs⟩)
      clear hcs hone HI9 hxl hOo hxs
      go_wp2_with (first
        | (with_reducible refine wpList_load_whole hBo 39 _ Tryd.underlying39 rfl HJ9.out rfl _ rfl rfl ?_)
        | (with_reducible refine wpList_store_same hBo HH9.out 39 HJ9.out rfl _ _ rfl rfl rfl ?_))
      have h0 := hBo.far (p := ⟨g0 + 1, 0, none⟩) (by simp) (.bool true)
      have h1 := hC'r.set_ 0 (.bool true)
      have hk9 : Below g0 w _ := hkr.setCell (p := ⟨g0 + 1, 0, none⟩) (by simp) (.bool true)
      have hk8 : Keeps (fun b => b = g0 + 1) wr _ := (Keeps.refl (fun b => b = g0 + 1) wr).setCell (p := ⟨g0 + 1, 0, none⟩) (fun _ => rfl) (.bool true)
      generalize wr.setCell ⟨g0 + 1, 0, none⟩ (.bool true) = w6 at h0 h1 hk9 hk8 ⊢
      simp only [List.setIfInBounds_toArray, List.set_cons_zero] at h1
      refine leaves_cons (f := 25) (args := #[.pointer (some ⟨g0, 0, none⟩), .pointer (some ⟨g0 + 1, 0, none⟩)]) (by simp) (by simp [go_sem]) ?_
      refine (catch_P9File ⟨g0, 0, none⟩ ⟨g0 + 1, 0, none⟩ _).mono ?_
      rintro e u' w9 ⟨rfl, rfl, rfl⟩
      have d1 := h1.cell 0
      simp only [List.getElem?_toArray, List.getElem?_cons_zero] at d1
      obtain ⟨hxl, hOo, hxs⟩ := HOX.out
      have hsx : Sxs w9 Ao xs := (Sxs.of_own (own_keeps hOo hk8 (fun g hg h => by
        have h' : g = g0 + 1 := h
        have := own_base hOo g hg
        omega)) (fun x hx => by
        obtain ⟨j, hj⟩ := List.getElem?_of_mem hx
        have ho := (hxs j x hj).2.2.2
        exact (Bs.of_own (own_keeps ho hk8 (fun g hg h => by
          have h' : g = g0 + 1 := h
          have := own_base ho g hg
          omega))).1)).1
      refine ⟨.tuple #[.agg cs, .bool true], ?_, Ao, co, xs, by rw [HCS.out], hxl, hsx, fun j x hj => ⟨(hxs j x hj).1, (hxs j x hj).2.1, (hxs j x hj).2.2.1⟩, by rw [HG0.out]; exact hk9⟩
      exact results_whole_cell (fn := Tryd.f10) (p := 2) (q := 3) (ty := 39) (uy := 4) rfl _ h0 _ rfl Tryd.underlying39 rfl HJ9.out ⟨g0 + 1, 0, none⟩ rfl _ (by simp [go_sem, d1])
end Go.Proofs.YtpdjolkbjcdimaaDoor
