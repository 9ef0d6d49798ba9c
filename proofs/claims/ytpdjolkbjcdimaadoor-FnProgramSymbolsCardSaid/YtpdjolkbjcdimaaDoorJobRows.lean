/- A batch of a drawn region whose operations read, make memory, or each write to one row of its own. No program is in sight here. -/
import Derived.Test.YtpdjolkbjcdimaaDoorGrow
namespace Go.Proofs.YtpdjolkbjcdimaaDoor
open Go.RowKit
section
variable {P : Program} {ops : Array Oper} {Q : Exit → Act → World → Prop} {md : Region.Mode} {S : World → Prop}

/-- Of what stood, block r alone has turned. -/
def Eff (r : Option Nat) (w w' : World) : Prop := Keeps (fun b => some b = r) w w'
/-- F speaks of block r, and of blocks from H on, alone. -/
def About (H : Nat) (r : Option Nat) (F : World → Prop) : Prop := ∀ w w' r', (∀ g, r' = some g → g < H ∧ r ≠ some g) → Eff r' w w' → F w → F w'
theorem About.true_ (H : Nat) (r : Option Nat) : About H r (fun _ => True) := fun _ _ _ _ _ _ => trivial
theorem About.const (H : Nat) (r : Option Nat) (p : Prop) : About H r (fun _ => p) := fun _ _ _ _ _ h => h

/-- A job on a row of its own, or on none. -/
def rjob (R : Nat → Option Nat) (i : Nat) (deps : List Nat) (pre : World → Prop) (post : Value → World → Prop) : Job := ⟨i, deps, pre, Eff (R i), post⟩

theorem wpAnyH_rows (R : Nat → Option Nat) (H : Nat) (rs : List Job) (fuel depth : Nat) {n : Nat} {listed : Array Bool} {a : Act} {w : World} (hs : Region.noSelect ops = true) (hn : n = rs.length + fuel)
    (hok : batchB md ops listed depth (rs.map fun p => (p.i, p.deps)) = true) (hS : ∀ w', Keeps (fun b => ∃ i, R i = some b) w w' → S w')
    (hR : ∀ i g, R i = some g → g < H) (hRne : ∀ i j g, i ≠ j → R i = some g → R j ≠ some g)
    (hform : ∀ p ∈ rs, p.eff = Eff (R p.i) ∧ About H (R p.i) p.pre ∧ ∀ v, About H (R p.i) (p.post v)) (hpre : ∀ p ∈ rs, p.pre w)
    (hdo : ∀ p ∈ rs, ∀ vs w0, Keeps (fun b => ∃ i, R i = some b) w w0 → p.pre w0 → (∀ q ∈ rs, q.i ∈ p.deps → q.post (vs q.i) w0) → p.doesAt P ops (puts ops vs (depsIn p rs) a) w0)
    (hnext : ∀ vs w', Keeps (fun b => ∃ i, R i = some b) w w' → (∀ p ∈ rs, p.post (vs p.i) w') → wpAnyH P md ops Q S fuel (lists (ids rs) listed) (puts ops vs (ids rs) a) w') :
    wpAnyH P md ops Q S n listed a w := by
  refine wpAnyH_jobs rs fuel depth (fun w' => Keeps (fun b => ∃ i, R i = some b) w w') hs hn hok hS (Keeps.refl _ w) hpre ?_ ?_ hdo hnext
  · intro p hp w1 w2 h1 h2
    rw [(hform p hp).1] at h2
    exact h1.trans (h2.mono (fun i hi => ⟨p.i, hi.symm⟩))
  · intro p hp q hq hne w1 w2 _ h2
    rw [(hform p hp).1] at h2
    have hg : ∀ g, R p.i = some g → g < H ∧ R q.i ≠ some g := fun g hg => ⟨hR _ g hg, hRne _ _ g hne hg⟩
    exact ⟨(hform q hq).2.1 w1 w2 _ hg h2, fun v => (hform q hq).2.2 v w1 w2 _ hg h2⟩

/-- A fresh one-cell slice. -/
def Fresh (H : Nat) (t : TypeId) (x : Value) (v : Value) (w : World) : Prop := ∃ g, v = .slice (some ⟨g, 0, none⟩) 1 1 ∧ H ≤ g ∧ Blk w g t #[x]
theorem Fresh.about (H : Nat) (r : Option Nat) (t : TypeId) (x v : Value) : About H r (Fresh H t x v) := fun w w' r' hr he ⟨g, hv, hg, hb⟩ =>
  ⟨g, hv, hg, hb.keeps he (fun h => by have := (hr g h.symm).1; omega)⟩
/-- What is owned, in block r or in one from H on. -/
def OwnAt (H base e : Nat) (r : Option Nat) (n : Nat) (xs : List Value) (v : Value) (w : World) : Prop :=
  ∃ A c, v = .slice A n c ∧ w.ownsRow base e 1 (.slice A n c) n xs ∧ ∀ b o, A = some ⟨b, o, none⟩ → some b = r ∨ H ≤ b
theorem own_keeps {w w' : World} {S : Nat → Prop} {base e size n : Nat} {v : Value} {xs : List Value} (h : w.ownsRow base e size v n xs) (hK : Keeps S w w') (hS : ∀ g, v.ownBlock = some g → ¬ S g) : w'.ownsRow base e size v n xs := by
  refine ⟨h.1, ?_⟩
  rcases h.2 with h0 | ⟨g, cap, cur, hv, hb, hh, hr⟩
  · exact .inl h0
  · exact .inr ⟨g, cap, cur, hv, hb, (hK.block g (Array.getElem?_eq_some_iff.1 hh).1 (hS g (by rw [hv]; rfl))).trans hh, hr⟩
theorem OwnAt.about (H base e : Nat) (r : Option Nat) (n : Nat) (xs : List Value) (v : Value) : About H r (OwnAt H base e r n xs v) := fun w w' r' hr he ⟨A, c, hv, ho, hA⟩ => by
  refine ⟨A, c, hv, own_keeps ho he (fun g hg h => ?_), hA⟩
  obtain ⟨h1, h2⟩ := hr g h.symm
  cases A with
  | none => simp [Value.ownBlock] at hg
  | some a =>
    obtain ⟨b, o, s⟩ := a
    have hbg : b = g := by simpa [Value.ownBlock] using hg
    rcases ho.2 with ⟨hv0, _⟩ | ⟨g', cap, cur, hv0, _⟩
    · cases hv0
    · injection hv0 with e1
      injection e1 with e1
      injection e1 with e1 e2 e3
      subst e3
      rcases hA b o rfl with h3 | h3
      · rw [hbg] at h3; exact h2 h3.symm
      · omega
theorem pre_about (H base e : Nat) (n : Nat) (xs : List Value) (A : Option Addr) (c : Nat) (r : Option Nat) (hr0 : ∀ b o, A = some ⟨b, o, none⟩ → r = some b) : About H r (fun w => w.ownsRow base e 1 (.slice A n c) n xs) := fun w w' r' hr he ho =>
  (OwnAt.about H base e r n xs (.slice A n c) w w' r' hr he ⟨A, c, rfl, ho, fun b o h => .inl (hr0 b o h).symm⟩).elim fun A' ⟨c', hv, h, _⟩ => by
    injection hv with e1 e2 e3
    subst e1 e3
    exact h

theorem Eff.refl (r : Option Nat) (w : World) : Eff r w w := Keeps.refl _ w
theorem Eff.alloc (r : Option Nat) (w : World) (o : Obj) : Eff r w (w.alloc o) := (Keeps.refl _ w).alloc o

/-- The append of one-cell elements, as a job. -/
theorem does_append {p : Job} {a : Act} {w : World} {o : Oper} (i : Nat) (hi : p.i = i) (ho : ops[i]? = some o) (hw : Region.wanted o (yielded ops a.tmps) = true) (s x : Operand) (t : TypeId)
    (hop : o.op = .call { callee := .builtin .append, args := #[s, x], argTypes := #[t, t] })
    (base : Nat) (e : TypeId) (ti : TypeInfo) (z : Value) (bytes : Nat) (ht : P.underlying t = some (.slice e)) (hti : P.info? e = some ti) (hz : ti.zero = some z)
    (hsize : ti.size = 1) (hby : ti.bytes = bytes) (hzs : z.cells.size = 1)
    (A : Option Addr) (n c : Nat) (xs : List Value) (hs : a.eval s = .slice A n c) (hown : w.ownsRow base e 1 (.slice A n c) n xs)
    (g : Nat) (u : Value) (tg : TypeId) (hx : a.eval x = .slice (some ⟨g, 0, none⟩) 1 1) (hg : Blk w g tg #[u]) (h1 : u.oneCell' = true)
    (h63 : n + 1 ≤ maxLen) (hbytes : (n + 1) * bytes ≤ 140737488355328) (hbase : base ≤ w.heap.size) (r : Option Nat) (hr : ∀ b o, A = some ⟨b, o, none⟩ → r = some b) (heff : p.eff = Eff r) (H : Nat) (hH : H ≤ w.heap.size)
    (hpost : ∀ v w', OwnAt H base e r (n + 1) (xs ++ [u]) v w' → p.post v w') : p.doesAt P ops a w := by
  obtain ⟨v', w', hrun, h2, h3, h4⟩ := run_append_src (P := P) w base t o.type e ti z bytes ht hti hz hsize hby hzs (.slice A n c) n xs hown (some ⟨g, 0, none⟩) 1 1 [u] rfl (fun h => by cases h) (fun ad had j y hy => by
    injection had with had
    subst had
    rw [add_off, hg.cell]
    simpa using hy) (fun y hy => by simp at hy; subst hy; exact h1) h63 hbytes hbase
  obtain ⟨A', c', rfl⟩ := own_form h2
  have hblk : ∀ b, (Value.slice A n c).ownBlock = some b → some b = r := fun b hb => by
    rcases hown.2 with ⟨hv0, _⟩ | ⟨g', cap, cur, hv0, _⟩
    · rw [hv0] at hb; simp [Value.ownBlock] at hb
    · injection hv0 with e1
      subst e1
      have : g' = b := by simpa [Value.ownBlock] using hb
      rw [← this]
      exact (hr g' 0 rfl).symm
  refine does_value i (v := .slice A' (n + 1) c') (w' := w') hi ho hw ?_ ?_ (hpost _ _ ⟨A', c', rfl, h2, fun b o he => ?_⟩)
  · unfold execOp
    simp only [hop, resolve, invoke, builtin, Sem.run_bind, Sem.run_pure, Result.andThen_ok, List.map_toArray, List.map_cons, List.map_nil, hs, hx, hrun]
  · rw [heff]
    exact ⟨h3.os, h3.tape, h3.output, h3.size, fun k hk hne => h3.block k hk (fun e => hne (hblk k e.symm))⟩
  · rcases h4 with h4 | h4
    · have hb : (Value.slice A' (n + 1) c').ownBlock = some b := by rw [he]; rfl
      rw [h4] at hb
      exact .inl (hblk b hb)
    · have hb : (Value.slice A' (n + 1) c').ownBlock = some b := by rw [he]; rfl
      rw [h4] at hb
      injection hb with hb
      exact .inr (by omega)
theorem puts_lit (vs : Nat → Value) (i d : Nat) (l : List Nat) (ts : List Value) (ds : List Deferred) (hd : jdst ops i = some d) : puts ops vs (i :: l) ⟨ts.toArray, ds⟩ = puts ops vs l ⟨(ts.set d (vs i)).toArray, ds⟩ := by
  unfold puts
  rw [List.foldl_cons, hd]
  simp [Act.put]
theorem doesAt_deps {p : Job} {rs : List Job} {vs : Nat → Value} {a : Act} {w : World} (l : List Nat) (hd : depsIn p rs = l) (h : p.doesAt P ops (puts ops vs l a) w) : p.doesAt P ops (puts ops vs (depsIn p rs) a) w := by
  rw [hd]; exact h
theorem puts_none (vs : Nat → Value) (a : Act) : puts ops vs [] a = a := rfl
end
end Go.Proofs.YtpdjolkbjcdimaaDoor
