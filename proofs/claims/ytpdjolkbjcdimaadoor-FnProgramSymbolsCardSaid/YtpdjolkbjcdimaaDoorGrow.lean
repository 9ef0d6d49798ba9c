/- A batch of a drawn region whose operations only make memory: each leaves a value that stays good. No program is in sight here. -/
import Derived.Test.YtpdjolkbjcdimaaDoorJobs
import Derived.Test.YtpdjolkbjcdimaaDoorMem
namespace Go.Proofs.YtpdjolkbjcdimaaDoor
open Go.RowKit
section
variable {P : Program} {ops : Array Oper} {Q : Exit → Act → World → Prop} {md : Region.Mode}

/-- Only new memory. -/
def Grew (w w' : World) : Prop := Below w.heap.size w w'
theorem Grew.trans {a b c : World} (h : Grew a b) (k : Grew b c) : Grew a c := Below.trans h (Below.mono k (Below.size h))
theorem Grew.refl (w : World) : Grew w w := Below.refl _ _
theorem Grew.alloc (w : World) (o : Obj) : Grew w (w.alloc o) := (Below.refl _ _).alloc (Nat.le_refl _) o
theorem Grew.drew (w : World) : Grew w w.drew := ((Keeps.refl (fun _ => False) w).drew).below (Nat.le_refl _) (fun _ h => h.elim)
theorem Grew.drewN (w : World) (n : Nat) : Grew w (w.drewN n) := ((Keeps.refl (fun _ => False) w).drewN n).below (Nat.le_refl _) (fun _ h => h.elim)
theorem Grew.cell {w w' : World} (h : Grew w w') {b o : Nat} {v : Value} (hc : w.cell? ⟨b, o, none⟩ = some v) : w'.cell? ⟨b, o, none⟩ = some v :=
  (Below.cell h (p := ⟨b, o, none⟩) (World.block_lt_of_cell? w _ hc)).trans hc
def Stays (post : Value → World → Prop) : Prop := ∀ v w w', Grew w w' → post v w → post v w'
/-- A slice of these bytes. -/
def BsV (l : List UInt8) (v : Value) (w : World) : Prop := ∃ A c, v = .slice A l.length c ∧ Bs w A l
theorem BsV.stays (l : List UInt8) : Stays (BsV l) := fun _ _ _ h ⟨A, c, e, hb⟩ => ⟨A, c, e, hb.below h⟩
def gjob (i : Nat) (deps : List Nat) (post : Value → World → Prop) : Job := ⟨i, deps, fun _ => True, Grew, post⟩
/-- A batch that only makes memory. -/
theorem wpAnyH_grow (rs : List Job) (fuel depth : Nat) {n : Nat} {listed : Array Bool} {a : Act} {w : World} {W0 : World} (hs : Region.noSelect ops = true) (hn : n = rs.length + fuel)
    (hok : batchB md ops listed depth (rs.map fun p => (p.i, p.deps)) = true) (hT : Grew W0 w) (hg : ∀ p ∈ rs, p.pre = (fun _ => True) ∧ p.eff = Grew ∧ Stays p.post)
    (hdo : ∀ p ∈ rs, ∀ vs w0, Grew w w0 → (∀ q ∈ rs, q.i ∈ p.deps → q.post (vs q.i) w0) → p.doesAt P ops (puts ops vs (depsIn p rs) a) w0)
    (hnext : ∀ vs w', Grew w w' → (∀ p ∈ rs, p.post (vs p.i) w') → wpAnyH P md ops Q (Grew W0) fuel (lists (ids rs) listed) (puts ops vs (ids rs) a) w') :
    wpAnyH P md ops Q (Grew W0) n listed a w := by
  refine wpAnyH_jobs rs fuel depth (Grew w) hs hn hok (fun _ h => hT.trans h) (Grew.refl w) (fun p hp => by rw [(hg p hp).1]; trivial) ?_ ?_ ?_ hnext
  · intro p hp w1 w' h1 h2
    rw [(hg p hp).2.1] at h2
    exact h1.trans h2
  · intro p hp q hq _ w1 w' _ h2
    rw [(hg p hp).2.1] at h2
    exact ⟨fun _ => by rw [(hg q hq).1]; trivial, fun v hv => (hg q hq).2.2 v w1 w' h2 hv⟩
  · intro p hp vs w0 h1 _ h3
    exact hdo p hp vs w0 h1 h3
theorem wpAnyH_grow0 (rs : List Job) (fuel depth : Nat) {n : Nat} {listed : Array Bool} {a : Act} {w : World} {W0 : World} (hs : Region.noSelect ops = true) (hn : n = rs.length + fuel)
    (hok : batchB md ops listed depth (rs.map fun p => (p.i, p.deps)) = true) (hT : Grew W0 w) (hg : ∀ p ∈ rs, p.deps = [] ∧ p.pre = (fun _ => True) ∧ p.eff = Grew ∧ Stays p.post)
    (hdo : ∀ p ∈ rs, ∀ w0, Grew w w0 → p.doesAt P ops a w0)
    (hnext : ∀ vs w', Grew w w' → (∀ p ∈ rs, p.post (vs p.i) w') → wpAnyH P md ops Q (Grew W0) fuel (lists (ids rs) listed) (puts ops vs (ids rs) a) w') :
    wpAnyH P md ops Q (Grew W0) n listed a w :=
  wpAnyH_grow rs fuel depth hs hn hok hT (fun p hp => (hg p hp).2) (fun p hp vs w0 h1 _ => by
    have hd : depsIn p rs = [] := by
      unfold depsIn
      rw [(hg p hp).1]
      simp
    rw [hd]
    exact hdo p hp w0 h1) hnext
/-- An operation that yields its value in every world that meets S is taken first; the frame written out. -/
theorem takeT (i : Nat) {S : World → Prop} {oi : Oper} {d : Tmp} {v : Value} {fuel : Nat} {listed : Array Bool} {ts : List Value} {ds : List Deferred} {w : World} (hi : ops[i]? = some oi) (hd : oi.dst = some d)
    (hs : Region.noSelect ops = true) (hf : Region.free md ops listed i = true) (hr : (Region.ready md ops listed).contains i = true)
    (hQ : ∀ c a w, Q (.panic c) (a.put oi.dst v) w → Q (.panic c) a w) (hS : S w) (hw : Region.wanted oi (yielded ops ts.toArray) = true)
    (hy : ∀ W, S W → (execOp (Act.eval ⟨ts.toArray, ds⟩) oi).run P W = .ok (.value v) W)
    (h : wpAnyH P md ops Q S fuel (listed.setIfInBounds i true) ⟨(ts.set d v).toArray, ds⟩ w) : wpAnyH P md ops Q S (fuel + 1) listed ⟨ts.toArray, ds⟩ w := by
  refine wpAnyH_take hi hs hf hr hQ (Or.inl ⟨hw, hy⟩) hS ?_
  rw [hd]
  simpa [Act.put] using h
theorem does_value (i : Nat) {p : Job} {a : Act} {w w' : World} {o : Oper} {v : Value} (hi : p.i = i) (ho : ops[i]? = some o) (hw : Region.wanted o (yielded ops a.tmps) = true) (hr : (execOp a.eval o).run P w = .ok (.value v) w')
    (he : p.eff w w') (hp : p.post v w') : p.doesAt P ops a w := fun o' ho' => by
  rw [hi, ho] at ho'
  injection ho' with ho'
  subst ho'
  rw [hr]
  exact ⟨hw, he, hp⟩
theorem does_enter (i : Nat) {p : Job} {a : Act} {w : World} {o : Oper} {f : FuncId} {args : Array Value} (hi : p.i = i) (ho : ops[i]? = some o) (hw : Region.wanted o (yielded ops a.tmps) = true) (hr : (execOp a.eval o).run P w = .ok (.enter f args) w)
    (hc : Calls P f args w (fun e w'' => ∃ v, e = .returned v ∧ p.eff w w'' ∧ p.post v w'')) : p.doesAt P ops a w := fun o' ho' => by
  rw [hi, ho] at ho'
  injection ho' with ho'
  subst ho'
  rw [hr]
  exact ⟨hw, rfl, hc⟩
/-- Behind a batch: the frame written out, one value at a time. -/
theorem putsT (i d : Nat) {S : World → Prop} {vs : Nat → Value} {l : List Nat} {fuel : Nat} {listed : Array Bool} {ts : List Value} {ds : List Deferred} {w : World} (hd : jdst ops i = some d)
    (h : wpAnyH P md ops Q S fuel (lists l (listed.setIfInBounds i true)) (puts ops vs l ⟨(ts.set d (vs i)).toArray, ds⟩) w) : wpAnyH P md ops Q S fuel (lists (i :: l) listed) (puts ops vs (i :: l) ⟨ts.toArray, ds⟩) w := by
  unfold lists puts at *
  rw [List.foldl_cons, List.foldl_cons, hd]
  simpa [Act.put] using h
theorem putsN {S : World → Prop} {vs : Nat → Value} {fuel : Nat} {listed : Array Bool} {a : Act} {w : World}
    (h : wpAnyH P md ops Q S fuel listed a w) : wpAnyH P md ops Q S fuel (lists [] listed) (puts ops vs [] a) w := h
/-- What is owned stays owned where memory only grows. -/
theorem own_grew {w w' : World} {base e size n : Nat} {v : Value} {xs : List Value} (h : w.ownsRow base e size v n xs) (hg : Grew w w') : w'.ownsRow base e size v n xs := by
  refine ⟨h.1, ?_⟩
  rcases h.2 with h0 | ⟨g, cap, cur, hv, hb, hh, hr⟩
  · exact .inl h0
  · exact .inr ⟨g, cap, cur, hv, hb, (Below.block hg g (Array.getElem?_eq_some_iff.1 hh).1).trans hh, hr⟩
theorem ownsRow_base {w : World} {base base' e size n : Nat} {v : Value} {xs : List Value} (h : w.ownsRow base e size v n xs) (hb : base' ≤ base) : w.ownsRow base' e size v n xs := by
  refine ⟨h.1, ?_⟩
  rcases h.2 with h0 | ⟨g, cap, cur, hv, hbb, hr⟩
  · exact .inl h0
  · exact .inr ⟨g, cap, cur, hv, Nat.le_trans hb hbb, hr⟩
/-- A slice that is the call's own, of these cells. -/
def OwnV (base e : Nat) (xs : List Value) (v : Value) (w : World) : Prop := ∃ A n c, v = .slice A n c ∧ w.ownsRow base e 1 (.slice A n c) n xs
theorem OwnV.stays (base e : Nat) (xs : List Value) : Stays (OwnV base e xs) := fun _ _ _ h ⟨A, n, c, e, hb⟩ => ⟨A, n, c, e, own_grew hb h⟩
/-- A fresh slice of one-cell values: its cells. -/
def RowV (xs : List Value) (v : Value) (w : World) : Prop := ∃ g, v = .slice (some ⟨g, 0, none⟩) xs.length xs.length ∧ g < w.heap.size ∧ ∀ i u, xs[i]? = some u → w.cell? ⟨g, i, none⟩ = some u
theorem RowV.stays (xs : List Value) : Stays (RowV xs) := fun _ _ _ h ⟨g, e, hl, hc⟩ => ⟨g, e, Nat.lt_of_lt_of_le hl (Below.size h), fun i u hu => Grew.cell h (hc i u hu)⟩
theorem RowV.new (w : World) (t : TypeId) (xs : List Value) {n : Nat} (hn : n = xs.length) : RowV xs (.slice (some ⟨w.heap.size, 0, none⟩) n n) (w.alloc (.cells xs.toArray t)) := by
  subst hn
  exact ⟨w.heap.size, rfl, by simp, fun i u hu => by rw [cell_of_row _ w.heap.size i _ t (0, 0) (heap_alloc_new w _)]; simpa using hu⟩
/-- One byte in a fresh slice. -/
theorem BsV.one (w : World) (t : TypeId) (x : UInt8) {n : Int} (hn : n = (x.toNat : Int)) : BsV [x] (.slice (some ⟨w.heap.size, 0, none⟩) 1 1) (w.alloc (.cells #[.int .u8 n] t)) := by
  subst hn
  refine ⟨_, _, rfl, fun _ => ⟨w.heap.size, 0, rfl, by simp, fun i hi => ?_⟩⟩
  rw [cell_of_row _ w.heap.size (0 + i) _ t (0, 0) (heap_alloc_new w _)]
  match i, hi with
  | 0, _ => rfl
end
end Go.Proofs.YtpdjolkbjcdimaaDoor
