/- The function that ZZWalk hands to walksymtab: it gathers each symbol's value, kind and raw name. -/
import Derived.Test.YtpdjolkbjcdimaaWalkt
import Derived.Test.YtpdjolkbjcdimaaJobRows
import Derived.Test.YtpdjolkbjcdimaaJoined
namespace Go.Proofs.Ytpdjolkbjcdimaa
open Go.RowKit

theorem info_w64 : (Try.prog.info? 31).map (fun i => (i.zero, i.size, i.bytes)) = some (some (.int .u64 0), 1, 8) := by kernel_rfl
theorem info_w8 : (Try.prog.info? 5).map (fun i => (i.zero, i.size, i.bytes)) = some (some (.int .u8 0), 1, 1) := by kernel_rfl
theorem info_wbs : (Try.prog.info? 26).map (fun i => (i.zero, i.size, i.bytes)) = some (some (.slice none 0 0), 1, 24) := by kernel_rfl

def vals64 (xs : List Sm) : List Value := xs.map fun s => .int .u64 s.v
def vals8 (xs : List Sm) : List Value := xs.map fun s => .int .u8 s.t
/-- Where a name lies: in no block that the walk writes. -/
def Safe (c0 c1 c2 base : Nat) (A : Option Addr) : Prop := ∀ b o, A = some ⟨b, o, none⟩ → b + 1 < base ∧ b ≠ c0 ∧ b ≠ c1 ∧ b ≠ c2
/-- What has been gathered of the first k symbols. -/
structure Wk (c0 c1 c2 base : Nat) (xs : List Sm) (k : Nat) (w : World) : Prop where
  lt0 : c0 < base
  lt1 : c1 < base
  lt2 : c2 < base
  v : ∃ A c, Blk w c0 25 #[.slice A k c] ∧ w.ownsRow base 31 1 (.slice A k c) k (vals64 (xs.take k))
  t : ∃ A c, Blk w c1 26 #[.slice A k c] ∧ w.ownsRow base 5 1 (.slice A k c) k (vals8 (xs.take k))
  n : ∃ (A : Option Addr) (c : Nat) (ps : List Piece), Blk w c2 27 #[.slice A k c] ∧ w.ownsRow base 26 1 (.slice A k c) k (ps.map Piece.val) ∧ ps.map (·.l) = (xs.take k).map (·.n.data.toList) ∧ ∀ p ∈ ps, Safe c0 c1 c2 base p.A ∧ Bs w p.A p.l

theorem own_lo {w : World} {base e n : Nat} {A : Option Addr} {c : Nat} {xs : List Value} (h : w.ownsRow base e 1 (.slice A n c) n xs) : ∀ b o, A = some ⟨b, o, none⟩ → base ≤ b ∧ b < w.heap.size ∧ o = 0 ∧ ∃ cur, w.heap[b]? = some (.cells cur e (0, 0)) := fun b o he => by
  rcases h.2 with ⟨hv, _⟩ | ⟨g, cap, cur, hv, hb, hh, _⟩
  · rw [he] at hv; cases hv
  · injection hv with e1
    rw [he] at e1
    injection e1 with e1
    injection e1 with e1 e2
    subst e1
    exact ⟨hb, (Array.getElem?_eq_some_iff.1 hh).1, e2, cur, hh⟩
theorem blk_ne {w : World} {g g' t t' : Nat} {cs cs' : Array Value} {fr fr' : Nat × Nat} (h : w.heap[g]? = some (.cells cs t fr)) (h' : w.heap[g']? = some (.cells cs' t' fr')) (hne : t ≠ t') : g ≠ g' := by
  rintro rfl
  rw [h] at h'
  injection h' with h'
  injection h' with _ ht
  exact hne ht

set_option maxRecDepth 100000 in
set_option maxHeartbeats 3200000 in
theorem gather_any (c0 c1 c2 base k : Nat) (xs : List Sm) (s : Sm) (A' : Option Addr) (c' : Nat) (w : World) (h : Wk c0 c1 c2 base xs k w) (hxk : xs[k]? = some s) (hk20 : k ≤ 1000) (hsafe : Safe c0 c1 c2 base A') (hb : Bs w A' s.n.data.toList) (hbase : base ≤ w.heap.size) :
    Calls Try.prog 23 #[.agg #[.int .u64 s.v, .int .u8 s.t, .slice A' s.n.size c'], .pointer (some ⟨c0, 0, none⟩), .pointer (some ⟨c1, 0, none⟩), .pointer (some ⟨c2, 0, none⟩)] w fun e w' =>
      (∃ u, e = .returned u) ∧ Wk c0 c1 c2 base xs (k + 1) w' ∧ Keeps (fun b => b = c0 ∨ b = c1 ∨ b = c2 ∨ base ≤ b) w w' := by
  obtain ⟨A0, k0, hB0, ho0⟩ := h.v
  obtain ⟨A1, k1, hB1, ho1⟩ := h.t
  obtain ⟨A2, k2, ps, hB2, ho2, hpl, hps⟩ := h.n
  have l0 := h.lt0
  have l1 := h.lt1
  have l2 := h.lt2
  obtain ⟨i0, hi0, hz0, hz1, hz2⟩ := info_parts info_w64
  obtain ⟨j0, hj0, hy0, hy1, hy2⟩ := info_parts info_w8
  obtain ⟨m0, hm0, hx0, hx1, hx2⟩ := info_parts info_wbs
  have n01 : c0 ≠ c1 := blk_ne hB0 hB1 (by decide)
  have n02 : c0 ≠ c2 := blk_ne hB0 hB2 (by decide)
  have n12 : c1 ≠ c2 := blk_ne hB1 hB2 (by decide)
  go_enter Try.func23, Try.ntmps23
  go_wp2_with fail
  refine wp_region_held_drew (S := fun _ => True) (by kernel_rfl) trivial (fun hHeld => ?_)
  refine takeT 1 rfl rfl (by kernel_rfl) (by kernel_rfl) (by kernel_rfl) (fun _ _ _ h => h) trivial rfl (fun W hW => by go_simp; rfl) ?_
  simp only [List.set_cons_zero, List.set_cons_succ]
  refine takeT 6 rfl rfl (by kernel_rfl) (by kernel_rfl) (by kernel_rfl) (fun _ _ _ h => h) trivial rfl (fun W hW => by go_simp; rfl) ?_
  simp only [List.set_cons_zero, List.set_cons_succ]
  refine takeT 11 rfl rfl (by kernel_rfl) (by kernel_rfl) (by kernel_rfl) (fun _ _ _ h => h) trivial rfl (fun W hW => by go_simp; rfl) ?_
  simp only [List.set_cons_zero, List.set_cons_succ]
  have hBx : Blk (w.alloc (.cells #[.int .u64 s.v, .int .u8 s.t, .slice A' s.n.size c'] 53)).drew w.heap.size 53 #[.int .u64 s.v, .int .u8 s.t, .slice A' s.n.size c'] := Blk.new w _ _
  have hK0 : Keeps (fun _ => False) w (w.alloc (.cells #[.int .u64 s.v, .int .u8 s.t, .slice A' s.n.size c'] 53)).drew := ((Keeps.refl (fun _ => False) w).alloc _).drew
  have hB0' := hB0.keeps hK0 (fun h => h)
  have hB1' := hB1.keeps hK0 (fun h => h)
  have hB2' := hB2.keeps hK0 (fun h => h)
  have ho0' := own_keeps ho0 hK0 (fun _ _ h => h)
  have ho1' := own_keeps ho1 hK0 (fun _ _ h => h)
  have ho2' := own_keeps ho2 hK0 (fun _ _ h => h)
  have hHs : (w.alloc (.cells #[.int .u64 s.v, .int .u8 s.t, .slice A' s.n.size c'] 53)).drew.heap.size = w.heap.size + 1 := by
    show (w.alloc _).heap.size = _
    simp
  generalize (w.alloc (.cells #[.int .u64 s.v, .int .u8 s.t, .slice A' s.n.size c'] 53)).drew = W0 at *
  generalize hH : w.heap.size + 1 = H at hHs
  obtain ⟨R0, hR0⟩ : ∃ R0 : Option Nat, R0 = A0.map (·.block) := ⟨_, rfl⟩
  obtain ⟨R1, hR1⟩ : ∃ R1 : Option Nat, R1 = A1.map (·.block) := ⟨_, rfl⟩
  obtain ⟨R2, hR2⟩ : ∃ R2 : Option Nat, R2 = A2.map (·.block) := ⟨_, rfl⟩
  have hr0 : ∀ b o, A0 = some ⟨b, o, none⟩ → R0 = some b := fun b o he => by rw [hR0, he]; rfl
  have hr1 : ∀ b o, A1 = some ⟨b, o, none⟩ → R1 = some b := fun b o he => by rw [hR1, he]; rfl
  have hr2 : ∀ b o, A2 = some ⟨b, o, none⟩ → R2 = some b := fun b o he => by rw [hR2, he]; rfl
  have own_at : ∀ {e n : Nat} {A : Option Addr} {c : Nat} {ys : List Value} {g : Nat}, w.ownsRow base e 1 (.slice A n c) n ys → A.map (·.block) = some g → base ≤ g ∧ g < w.heap.size ∧ ∃ cur, w.heap[g]? = some (.cells cur e (0, 0)) := fun {e n A c ys g} ho hg => by
    rcases ho.2 with ⟨hv, _⟩ | ⟨g', cap, cur, hv, hb, hh, _⟩
    · injection hv with e1; rw [e1] at hg; cases hg
    · injection hv with e1
      rw [e1] at hg
      injection hg with hg
      simp only at hg
      subst hg
      exact ⟨hb, (Array.getElem?_eq_some_iff.1 hh).1, cur, hh⟩
  have q0 : ∀ g, R0 = some g → base ≤ g ∧ g < w.heap.size ∧ ∃ cur, w.heap[g]? = some (.cells cur 31 (0, 0)) := fun g hg => own_at ho0 (hR0 ▸ hg)
  have q1 : ∀ g, R1 = some g → base ≤ g ∧ g < w.heap.size ∧ ∃ cur, w.heap[g]? = some (.cells cur 5 (0, 0)) := fun g hg => own_at ho1 (hR1 ▸ hg)
  have q2 : ∀ g, R2 = some g → base ≤ g ∧ g < w.heap.size ∧ ∃ cur, w.heap[g]? = some (.cells cur 26 (0, 0)) := fun g hg => own_at ho2 (hR2 ▸ hg)
  obtain ⟨R, hR⟩ : ∃ R : Nat → Option Nat, R = fun i => if i = 4 then R0 else if i = 9 then R1 else if i = 14 then R2 else none := ⟨_, rfl⟩
  have hRn : ∀ i, i ≠ 4 → i ≠ 9 → i ≠ 14 → R i = none := fun i h1 h2 h3 => by rw [hR]; simp [h1, h2, h3]
  have hR4 : R 4 = R0 := by rw [hR]; rfl
  have hR9 : R 9 = R1 := by rw [hR]; rfl
  have hR14 : R 14 = R2 := by rw [hR]; rfl
  have hRall : ∀ i g, R i = some g → base ≤ g ∧ g < w.heap.size := fun i g hg => by
    by_cases h4 : i = 4
    · subst h4; rw [hR4] at hg; exact ⟨(q0 g hg).1, (q0 g hg).2.1⟩
    by_cases h9 : i = 9
    · subst h9; rw [hR9] at hg; exact ⟨(q1 g hg).1, (q1 g hg).2.1⟩
    by_cases h14 : i = 14
    · subst h14; rw [hR14] at hg; exact ⟨(q2 g hg).1, (q2 g hg).2.1⟩
    rw [hRn i h4 h9 h14] at hg
    cases hg
  have hRne : ∀ i j g, i ≠ j → R i = some g → R j ≠ some g := fun i j g hij hi hj => by
    have ti : ∀ i, R i = some g → (i = 4 ∧ ∃ cur, w.heap[g]? = some (.cells cur 31 (0, 0))) ∨ (i = 9 ∧ ∃ cur, w.heap[g]? = some (.cells cur 5 (0, 0))) ∨ (i = 14 ∧ ∃ cur, w.heap[g]? = some (.cells cur 26 (0, 0))) := fun i hi => by
      by_cases h4 : i = 4
      · subst h4; rw [hR4] at hi; exact .inl ⟨rfl, (q0 g hi).2.2⟩
      by_cases h9 : i = 9
      · subst h9; rw [hR9] at hi; exact .inr (.inl ⟨rfl, (q1 g hi).2.2⟩)
      by_cases h14 : i = 14
      · subst h14; rw [hR14] at hi; exact .inr (.inr ⟨rfl, (q2 g hi).2.2⟩)
      rw [hRn i h4 h9 h14] at hi
      cases hi
    rcases ti i hi with ⟨e1, u1, w1⟩ | ⟨e1, u1, w1⟩ | ⟨e1, u1, w1⟩ <;> rcases ti j hj with ⟨e2, u2, w2⟩ | ⟨e2, u2, w2⟩ | ⟨e2, u2, w2⟩
    all_goals first
      | (exact hij (e1.trans e2.symm))
      | (exact blk_ne w1 w2 (by decide) rfl)
  have hcellc : ∀ W, Keeps (fun b => ∃ i, R i = some b) W0 W → W.cell? ⟨c0, 0, none⟩ = some (.slice A0 k k0) ∧ W.cell? ⟨c1, 0, none⟩ = some (.slice A1 k k1) ∧ W.cell? ⟨c2, 0, none⟩ = some (.slice A2 k k2) ∧
      W.cell? ⟨w.heap.size, 0, none⟩ = some (.int .u64 s.v) ∧ W.cell? ⟨w.heap.size, 1, none⟩ = some (.int .u8 s.t) ∧ W.cell? ⟨w.heap.size, 2, none⟩ = some (.slice A' s.n.size c') := fun W hW => by
    have z0 := (hB0'.keeps hW (fun ⟨i, hi⟩ => by have := (hRall i _ hi).1; omega)).cell 0
    have z1 := (hB1'.keeps hW (fun ⟨i, hi⟩ => by have := (hRall i _ hi).1; omega)).cell 0
    have z2 := (hB2'.keeps hW (fun ⟨i, hi⟩ => by have := (hRall i _ hi).1; omega)).cell 0
    have zb := hBx.keeps hW (fun ⟨i, hi⟩ => by have := (hRall i _ hi).2; omega)
    exact ⟨z0, z1, z2, zb.cell 0, zb.cell 1, zb.cell 2⟩
  refine wpAnyH_rows R H [rjob R 0 [] (fun _ => True) (fun v _ => v = .slice A0 k k0), rjob R 2 [] (fun _ => True) (fun v _ => v = (.int .u64 s.v)), rjob R 3 [2] (fun _ => True) (Fresh H 31 (.int .u64 s.v)), rjob R 4 [0, 3] (fun W => W.ownsRow base 31 1 (.slice A0 k k0) k (vals64 (xs.take k))) (OwnAt H base 31 R0 (k + 1) ((vals64 (xs.take k)) ++ [(.int .u64 s.v)])), rjob R 5 [] (fun _ => True) (fun v _ => v = .slice A1 k k1), rjob R 7 [] (fun _ => True) (fun v _ => v = (.int .u8 s.t)), rjob R 8 [7] (fun _ => True) (Fresh H 5 (.int .u8 s.t)), rjob R 9 [5, 8] (fun W => W.ownsRow base 5 1 (.slice A1 k k1) k (vals8 (xs.take k))) (OwnAt H base 5 R1 (k + 1) ((vals8 (xs.take k)) ++ [(.int .u8 s.t)])), rjob R 10 [] (fun _ => True) (fun v _ => v = .slice A2 k k2), rjob R 12 [] (fun _ => True) (fun v _ => v = (.slice A' s.n.size c')), rjob R 13 [12] (fun _ => True) (Fresh H 26 (.slice A' s.n.size c')), rjob R 14 [10, 13] (fun W => W.ownsRow base 26 1 (.slice A2 k k2) k (ps.map Piece.val)) (OwnAt H base 26 R2 (k + 1) ((ps.map Piece.val) ++ [(.slice A' s.n.size c')]))] 3 12 (by kernel_rfl) rfl (by kernel_rfl) (fun _ _ => trivial) (fun i g hg => by have := (hRall i g hg).2; omega) hRne ?_ ?_ ?_ ?_
  · intro p hp
    simp only [List.mem_cons, List.not_mem_nil, or_false] at hp
    rcases hp with rfl | rfl | rfl | rfl | rfl | rfl | rfl | rfl | rfl | rfl | rfl | rfl
    · exact ⟨rfl, About.true_ _ _, fun v => About.const _ _ _⟩
    · exact ⟨rfl, About.true_ _ _, fun v => About.const _ _ _⟩
    · exact ⟨rfl, About.true_ _ _, fun v => Fresh.about _ _ _ _ _⟩
    · exact ⟨rfl, (by show About H (R 4) _; rw [hR4]; exact pre_about H base 31 k _ A0 k0 R0 hr0), fun v => (by show About H (R 4) _; rw [hR4]; exact OwnAt.about _ _ _ _ _ _ v)⟩
    · exact ⟨rfl, About.true_ _ _, fun v => About.const _ _ _⟩
    · exact ⟨rfl, About.true_ _ _, fun v => About.const _ _ _⟩
    · exact ⟨rfl, About.true_ _ _, fun v => Fresh.about _ _ _ _ _⟩
    · exact ⟨rfl, (by show About H (R 9) _; rw [hR9]; exact pre_about H base 5 k _ A1 k1 R1 hr1), fun v => (by show About H (R 9) _; rw [hR9]; exact OwnAt.about _ _ _ _ _ _ v)⟩
    · exact ⟨rfl, About.true_ _ _, fun v => About.const _ _ _⟩
    · exact ⟨rfl, About.true_ _ _, fun v => About.const _ _ _⟩
    · exact ⟨rfl, About.true_ _ _, fun v => Fresh.about _ _ _ _ _⟩
    · exact ⟨rfl, (by show About H (R 14) _; rw [hR14]; exact pre_about H base 26 k _ A2 k2 R2 hr2), fun v => (by show About H (R 14) _; rw [hR14]; exact OwnAt.about _ _ _ _ _ _ v)⟩
  · intro p hp
    simp only [List.mem_cons, List.not_mem_nil, or_false] at hp
    rcases hp with rfl | rfl | rfl | rfl | rfl | rfl | rfl | rfl | rfl | rfl | rfl | rfl
    · exact trivial
    · exact trivial
    · exact trivial
    · exact ho0'
    · exact trivial
    · exact trivial
    · exact trivial
    · exact ho1'
    · exact trivial
    · exact trivial
    · exact trivial
    · exact ho2'
  · intro p hp vs W hW hpre hq
    simp only [List.forall_mem_cons, rjob] at hq
    obtain ⟨p0, p2, p3, p4, p5, p7, p8, p9, p10, p12, p13, p14, _⟩ := hq
    simp only [List.mem_cons, List.not_mem_nil, or_false] at hp
    rcases hp with rfl | rfl | rfl | rfl | rfl | rfl | rfl | rfl | rfl | rfl | rfl | rfl
    · refine doesAt_deps [] rfl ?_
      obtain ⟨e0, e1, e2, e3, e4, e5⟩ := hcellc W hW
      exact does_value 0 rfl rfl rfl (by rw [puts_none]; go_simp) (Eff.refl _ _) rfl
    · refine doesAt_deps [] rfl ?_
      obtain ⟨e0, e1, e2, e3, e4, e5⟩ := hcellc W hW
      exact does_value 2 rfl rfl rfl (by rw [puts_none]; go_simp) (Eff.refl _ _) rfl
    · refine doesAt_deps [2] rfl ?_
      have ef : vs 2 = (.int .u64 s.v) := p2 (by simp [rjob])
      rw [puts_lit vs 2 8 [] _ _ rfl, puts_none, ef]
      simp only [List.set_cons_zero, List.set_cons_succ]
      exact does_value 3 rfl rfl rfl (by go_simp) (Eff.alloc _ _ _) ⟨W.heap.size, rfl, by rw [← hHs]; exact hW.size, Blk.new W _ _⟩
    · refine doesAt_deps [0, 3] rfl ?_
      have el : vs 0 = .slice A0 k k0 := p0 (by simp [rjob])
      obtain ⟨g, eg, hgH, hgB⟩ := p3 (by simp [rjob])
      rw [puts_lit vs 0 6 [3] _ _ rfl, puts_lit vs 3 9 [] _ _ rfl, puts_none, el, eg]
      simp only [List.set_cons_zero, List.set_cons_succ]
      have hszW : W0.heap.size ≤ W.heap.size := hW.size
      exact does_append 4 rfl rfl rfl (.tmp 6) (.tmp 9) 25 rfl base 31 i0 (.int .u64 0) 8 Try.underlying25 hi0 hz0 hz1 hz2 rfl A0 k k0 (vals64 (xs.take k)) rfl hpre g (.int .u64 s.v) 31 rfl hgB rfl (by simp only [maxLen]; omega) (by omega) (by omega) R0 hr0 (by show Eff (R 4) = _; rw [hR4]) H (by omega) (fun v w' h => h)
    · refine doesAt_deps [] rfl ?_
      obtain ⟨e0, e1, e2, e3, e4, e5⟩ := hcellc W hW
      exact does_value 5 rfl rfl rfl (by rw [puts_none]; go_simp) (Eff.refl _ _) rfl
    · refine doesAt_deps [] rfl ?_
      obtain ⟨e0, e1, e2, e3, e4, e5⟩ := hcellc W hW
      exact does_value 7 rfl rfl rfl (by rw [puts_none]; go_simp) (Eff.refl _ _) rfl
    · refine doesAt_deps [7] rfl ?_
      have ef : vs 7 = (.int .u8 s.t) := p7 (by simp [rjob])
      rw [puts_lit vs 7 13 [] _ _ rfl, puts_none, ef]
      simp only [List.set_cons_zero, List.set_cons_succ]
      exact does_value 8 rfl rfl rfl (by go_simp) (Eff.alloc _ _ _) ⟨W.heap.size, rfl, by rw [← hHs]; exact hW.size, Blk.new W _ _⟩
    · refine doesAt_deps [5, 8] rfl ?_
      have el : vs 5 = .slice A1 k k1 := p5 (by simp [rjob])
      obtain ⟨g, eg, hgH, hgB⟩ := p8 (by simp [rjob])
      rw [puts_lit vs 5 11 [8] _ _ rfl, puts_lit vs 8 14 [] _ _ rfl, puts_none, el, eg]
      simp only [List.set_cons_zero, List.set_cons_succ]
      have hszW : W0.heap.size ≤ W.heap.size := hW.size
      exact does_append 9 rfl rfl rfl (.tmp 11) (.tmp 14) 26 rfl base 5 j0 (.int .u8 0) 1 Try.underlying26 hj0 hy0 hy1 hy2 rfl A1 k k1 (vals8 (xs.take k)) rfl hpre g (.int .u8 s.t) 5 rfl hgB rfl (by simp only [maxLen]; omega) (by omega) (by omega) R1 hr1 (by show Eff (R 9) = _; rw [hR9]) H (by omega) (fun v w' h => h)
    · refine doesAt_deps [] rfl ?_
      obtain ⟨e0, e1, e2, e3, e4, e5⟩ := hcellc W hW
      exact does_value 10 rfl rfl rfl (by rw [puts_none]; go_simp) (Eff.refl _ _) rfl
    · refine doesAt_deps [] rfl ?_
      obtain ⟨e0, e1, e2, e3, e4, e5⟩ := hcellc W hW
      exact does_value 12 rfl rfl rfl (by rw [puts_none]; go_simp) (Eff.refl _ _) rfl
    · refine doesAt_deps [12] rfl ?_
      have ef : vs 12 = (.slice A' s.n.size c') := p12 (by simp [rjob])
      rw [puts_lit vs 12 18 [] _ _ rfl, puts_none, ef]
      simp only [List.set_cons_zero, List.set_cons_succ]
      exact does_value 13 rfl rfl rfl (by go_simp) (Eff.alloc _ _ _) ⟨W.heap.size, rfl, by rw [← hHs]; exact hW.size, Blk.new W _ _⟩
    · refine doesAt_deps [10, 13] rfl ?_
      have el : vs 10 = .slice A2 k k2 := p10 (by simp [rjob])
      obtain ⟨g, eg, hgH, hgB⟩ := p13 (by simp [rjob])
      rw [puts_lit vs 10 16 [13] _ _ rfl, puts_lit vs 13 19 [] _ _ rfl, puts_none, el, eg]
      simp only [List.set_cons_zero, List.set_cons_succ]
      have hszW : W0.heap.size ≤ W.heap.size := hW.size
      exact does_append 14 rfl rfl rfl (.tmp 16) (.tmp 19) 27 rfl base 26 m0 (.slice none 0 0) 24 Try.underlying27 hm0 hx0 hx1 hx2 rfl A2 k k2 (ps.map Piece.val) rfl hpre g (.slice A' s.n.size c') 26 rfl hgB rfl (by simp only [maxLen]; omega) (by omega) (by omega) R2 hr2 (by show Eff (R 14) = _; rw [hR14]) H (by omega) (fun v w' h => h)
  · intro vs W hW hpost
    simp only [List.forall_mem_cons, rjob] at hpost
    obtain ⟨p0, p2, p3, p4, p5, p7, p8, p9, p10, p12, p13, p14, _⟩ := hpost
    obtain ⟨g3, e3, _, _⟩ := p3
    obtain ⟨g8, e8, _, _⟩ := p8
    obtain ⟨g13, e13, _, _⟩ := p13
    obtain ⟨B0, b0, e4, o4, a4⟩ := p4
    obtain ⟨B1, b1, e9, o9, a9⟩ := p9
    obtain ⟨B2, b2, e14, o14, a14⟩ := p14
    refine putsT 0 6 rfl (putsT 2 8 rfl (putsT 3 9 rfl (putsT 4 10 rfl (putsT 5 11 rfl (putsT 7 13 rfl (putsT 8 14 rfl (putsT 9 15 rfl (putsT 10 16 rfl (putsT 12 18 rfl (putsT 13 19 rfl (putsT 14 20 rfl (putsN ?_))))))))))))
    rw [p0, p2, e3, e4, p5, p7, e8, e9, p10, p12, e13, e14]
    simp only [List.set_cons_zero, List.set_cons_succ]
    have y0 := hB0'.keeps hW (fun ⟨i, hi⟩ => by have := (hRall i _ hi).1; omega)
    have y1 := hB1'.keeps hW (fun ⟨i, hi⟩ => by have := (hRall i _ hi).1; omega)
    have y2 := hB2'.keeps hW (fun ⟨i, hi⟩ => by have := (hRall i _ hi).1; omega)
    have z0 := y0.cell 0
    have z1 := y1.cell 0
    have z2 := y2.cell 0
    have f0 := y0.frozen 0
    have f1 := y1.frozen 0
    have f2 := y2.frozen 0
    simp only [List.getElem?_toArray, List.getElem?_cons_zero] at z0 z1 z2
    have m1 : ¬ c0 = c1 := n01
    have m2 : ¬ c0 = c2 := n02
    have m3 : ¬ c1 = c2 := n12
    have m4 : ¬ c1 = c0 := fun h => n01 h.symm
    have m5 : ¬ c2 = c0 := fun h => n02 h.symm
    have m6 : ¬ c2 = c1 := fun h => n12 h.symm
    refine wpAnyH_ready (rs := [15]) (by kernel_rfl) (by simp) (AllReadyH.cons (i := 15) rfl (fun K hK => ?_) AllReadyH.nil)
    go_simp
    refine hK.out _ _ trivial (fun _ => ?_)
    clear hK K
    refine wpAnyH_ready (rs := [16]) (by kernel_rfl) (by simp) (AllReadyH.cons (i := 16) rfl (fun K hK => ?_) AllReadyH.nil)
    go_simp
    refine hK.out _ _ trivial (fun _ => ?_)
    clear hK K
    refine wpAnyH_ready (rs := [17]) (by kernel_rfl) (by simp) (AllReadyH.cons (i := 17) rfl (fun K hK => ?_) AllReadyH.nil)
    go_simp
    refine hK.out _ _ trivial (fun _ => ?_)
    clear hK K
    refine wpAnyH_done (by kernel_rfl) ?_ _
    have x0 := ((y0.set_ 0 (.slice B0 (k + 1) b0)).far (p := ⟨c1, 0, none⟩) m1 (.slice B1 (k + 1) b1)).far (p := ⟨c2, 0, none⟩) m2 (.slice B2 (k + 1) b2)
    have x1 := ((y1.far (p := ⟨c0, 0, none⟩) m4 (.slice B0 (k + 1) b0)).set_ 0 (.slice B1 (k + 1) b1)).far (p := ⟨c2, 0, none⟩) m3 (.slice B2 (k + 1) b2)
    have x2 := ((y2.far (p := ⟨c0, 0, none⟩) m5 (.slice B0 (k + 1) b0)).far (p := ⟨c1, 0, none⟩) m6 (.slice B1 (k + 1) b1)).set_ 0 (.slice B2 (k + 1) b2)
    have kk : Keeps (fun b => b = c0 ∨ b = c1 ∨ b = c2) W _ := (((Keeps.refl (fun b => b = c0 ∨ b = c1 ∨ b = c2) W).setCell (p := ⟨c0, 0, none⟩) (fun _ => .inl rfl) (.slice B0 (k + 1) b0)).setCell (p := ⟨c1, 0, none⟩) (fun _ => .inr (.inl rfl)) (.slice B1 (k + 1) b1)).setCell (p := ⟨c2, 0, none⟩) (fun _ => .inr (.inr rfl)) (.slice B2 (k + 1) b2)
    generalize ((W.setCell ⟨c0, 0, none⟩ (.slice B0 (k + 1) b0)).setCell ⟨c1, 0, none⟩ (.slice B1 (k + 1) b1)).setCell ⟨c2, 0, none⟩ (.slice B2 (k + 1) b2) = W9 at x0 x1 x2 kk ⊢
    simp only [List.setIfInBounds_toArray, List.set_cons_zero] at x0 x1 x2
    have hlow : ∀ {e n : Nat} {A : Option Addr} {c : Nat} {ys : List Value}, W.ownsRow base e 1 (.slice A n c) n ys → W9.ownsRow base e 1 (.slice A n c) n ys := fun {e n A c ys} ho => own_keeps ho kk (fun g hg h => by
      rcases ho.2 with ⟨hv, _⟩ | ⟨g', cap, cur, hv, hb, _⟩
      · rw [hv] at hg; simp [Value.ownBlock] at hg
      · rw [hv] at hg
        have : g' = g := by simpa [Value.ownBlock] using hg
        omega)
    have kall : Keeps (fun b => b = c0 ∨ b = c1 ∨ b = c2 ∨ base ≤ b) w W9 :=
      ((hK0.mono (fun i h => h.elim)).trans (hW.mono (fun i ⟨j, hj⟩ => .inr (.inr (.inr (hRall j i hj).1))))).trans (kk.mono (fun i h => by
        rcases h with h | h | h
        · exact .inl h
        · exact .inr (.inl h)
        · exact .inr (.inr (.inl h))))
    have hsafe_not : ∀ {A : Option Addr}, Safe c0 c1 c2 base A → ∀ b o, A = some ⟨b, o, none⟩ → ¬ (b = c0 ∨ b = c1 ∨ b = c2 ∨ base ≤ b) := fun {A} hs b o he h => by
      obtain ⟨q1, q2, q3, q4⟩ := hs b o he
      rcases h with h | h | h | h
      · exact q2 h
      · exact q3 h
      · exact q4 h
      · omega
    have hsn : xs.take (k + 1) = xs.take k ++ [s] := by
      have hlt := (List.getElem?_eq_some_iff.1 hxk).1
      rw [List.take_succ_eq_append_getElem hlt]
      congr 2
      exact (List.getElem?_eq_some_iff.1 hxk).2
    have hfin : Wk c0 c1 c2 base xs (k + 1) W9 := by
      refine ⟨l0, l1, l2, ⟨B0, b0, x0, ?_⟩, ⟨B1, b1, x1, ?_⟩, ⟨B2, b2, ps ++ [⟨A', s.n.data.toList, c'⟩], x2, ?_, ?_, ?_⟩⟩
      · have := hlow o4
        rw [hsn]
        simpa [vals64] using this
      · have := hlow o9
        rw [hsn]
        simpa [vals8] using this
      · have := hlow o14
        rw [List.map_append]
        simpa [Piece.val] using this
      · rw [hsn, List.map_append, List.map_append, hpl]
        rfl
      · intro p hp
        rcases List.mem_append.1 hp with hp | hp
        · obtain ⟨q1, q2⟩ := hps p hp
          exact ⟨q1, q2.keeps kall (fun b o he _ => hsafe_not q1 b o he)⟩
        · simp only [List.mem_singleton] at hp
          subst hp
          exact ⟨hsafe, hb.keeps kall (fun b o he _ => hsafe_not hsafe b o he)⟩
    have HF := Lib.hid hfin
    have HK := Lib.hid kall
    clear hfin kall hsafe_not hlow kk x0 x1 x2 y0 y1 y2 z0 z1 z2 f0 f1 f2 o4 o9 o14 a4 a9 a14 p0 p2 p5 p7 p10 p12 e3 e8 e13 e4 e9 e14 hcellc hRne hRall hsn
    go_wp2_with fail
    go_ret
    exact ⟨⟨_, rfl⟩, HF.out, HK.out⟩
end Go.Proofs.Ytpdjolkbjcdimaa
