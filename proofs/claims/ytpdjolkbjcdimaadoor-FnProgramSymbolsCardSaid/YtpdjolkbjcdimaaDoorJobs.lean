/- A region that draws its order, many of whose operations make memory or call: the operations of a batch are carried out in whatever order; each leaves what it is said to leave, and turns nothing that another one speaks of. No program is in sight here. -/
import Derived.Deep.RegionHeld3
namespace Go.Proofs.YtpdjolkbjcdimaaDoor
open Go
section
variable {P : Program} {ops : Array Oper} {Q : Exit → Act → World → Prop} {md : Region.Mode} {S : World → Prop}

/-- One operation of a batch: its number; those of the batch whose values it reads; what it asks of the world; what it does to the world; what it leaves. -/
structure Job where
  i : Nat
  deps : List Nat
  pre : World → Prop
  eff : World → World → Prop
  post : Value → World → Prop

def doesUpon (P : Program) (eff : World → World → Prop) (post : Value → World → Prop) (w : World) : Result Next → Prop
  | .ok (.value v) w' => eff w w' ∧ post v w'
  | .ok .skip w' => eff w w' ∧ post undef w'
  | .ok (.enter f args) w' => w' = w ∧ Calls P f args w (fun e w'' => ∃ v, e = .returned v ∧ eff w w'' ∧ post v w'')
  | _ => False

/-- In this state and this world the operation does its work. -/
def Job.doesAt (P : Program) (ops : Array Oper) (p : Job) (a : Act) (w : World) : Prop :=
  ∀ o, ops[p.i]? = some o → Region.wanted o (yielded ops a.tmps) = true ∧ doesUpon P p.eff p.post w ((execOp a.eval o).run P w)

def jdst (ops : Array Oper) (i : Nat) : Option Tmp := (ops[i]?).bind (·.dst)
def puts (ops : Array Oper) (vs : Nat → Value) (l : List Nat) (a : Act) : Act := l.foldl (fun a i => a.put (jdst ops i) (vs i)) a
def lists (l : List Nat) (b : Array Bool) : Array Bool := l.foldl (fun b i => b.setIfInBounds i true) b

theorem wpOp_of_does {p : Job} {a : Act} {w : World} {K : Act → World → Prop} (hi : ∃ o, ops[p.i]? = some o) (hd : p.doesAt P ops a w)
    (h : ∀ v w', p.eff w w' → p.post v w' → K (a.put (jdst ops p.i) v) w') : wpOp P ops Q p.i K a w := by
  obtain ⟨o, ho⟩ := hi
  obtain ⟨hw, hu⟩ := hd o ho
  have hj : jdst ops p.i = o.dst := by simp [jdst, ho]
  rw [hj] at h
  unfold wpOp
  simp only [ho, hw, if_true]
  refine .inl ?_
  unfold Oper.wp
  generalize (execOp a.eval o).run P w = r at hu
  cases r with
  | ok n w' =>
    cases n <;> simp only [doesUpon] at hu <;> simp only [Oper.upon]
    case value v => exact h _ _ hu.1 hu.2
    case skip => exact h _ _ hu.1 hu.2
    case enter f args =>
      obtain ⟨rfl, hc⟩ := hu
      exact hc.mono fun e w'' ⟨v, he, h1, h2⟩ => by subst he; exact h _ _ h1 h2
  | halt x w' => simp only [doesUpon] at hu

/-- Number j waits, by its own edges or by those of others that have not come up, for r. -/
def waits (md : Region.Mode) (ops : Array Oper) (listed : Array Bool) : Nat → Nat → Nat → Bool
  | 0, _, _ => false
  | n + 1, j, r => match ops[j]? with
    | some o => o.after.any fun e => Region.binds md e && (e.on == r || (!listed.getD e.on true && waits md ops listed n e.on r))
    | none => false

theorem waits_not_ready {listed : Array Bool} {n j r : Nat} (h : waits md ops listed n j r = true) (hr : listed.getD r true = false) : j ∉ Region.ready md ops listed := by
  intro hj
  obtain ⟨_, o, ho, hall⟩ := mem_ready.1 hj
  cases n with
  | zero => simp [waits] at h
  | succ n =>
    simp only [waits, ho] at h
    obtain ⟨e, he, hb⟩ := Array.any_eq_true'.1 h
    simp only [Bool.and_eq_true, Bool.or_eq_true, beq_iff_eq, Bool.not_eq_true'] at hb
    have h1 := hall e he hb.1
    have hun : listed.getD e.on true = false := by
      rcases hb.2 with h2 | h2
      · rw [h2]; exact hr
      · exact h2.1
    rcases Nat.lt_or_ge e.on listed.size with h' | h'
    · simp [h'] at h1 hun; rw [h1] at hun; cases hun
    · simp [Array.getElem?_eq_none h'] at h1

theorem getD_false_true {listed : Array Bool} {k : Nat} (h1 : listed.getD k false = true) (h2 : listed.getD k true = false) : False := by
  rcases Nat.lt_or_ge k listed.size with h' | h'
  · simp [h'] at h1 h2; rw [h1] at h2; cases h2
  · simp [Array.getElem?_eq_none h'] at h1

theorem waits_shift {listed : Array Bool} {i r : Nat} (hi : i ∈ Region.ready md ops listed) (hr : listed.getD r true = false) :
    ∀ n j, waits md ops listed n j r = true → waits md ops (listed.setIfInBounds i true) n j r = true := by
  intro n
  induction n with
  | zero => intro j h; simp [waits] at h
  | succ n ih =>
    intro j h
    cases ho : ops[j]? with
    | none => simp [waits, ho] at h
    | some o =>
      simp only [waits, ho] at h ⊢
      obtain ⟨e, he, hb⟩ := Array.any_eq_true'.1 h
      simp only [Bool.and_eq_true, Bool.or_eq_true, beq_iff_eq, Bool.not_eq_true'] at hb
      refine Array.any_eq_true'.2 ⟨e, he, ?_⟩
      simp only [Bool.and_eq_true, Bool.or_eq_true, beq_iff_eq, Bool.not_eq_true']
      refine ⟨hb.1, ?_⟩
      rcases hb.2 with h2 | ⟨h2, h3⟩
      · exact .inl h2
      · by_cases hk : e.on = i
        · rw [hk] at h3
          exact absurd hi (waits_not_ready h3 hr)
        · exact .inr ⟨by rw [getD_set_ne true (Ne.symm hk)]; exact h2, ih _ h3⟩

structure BatchOk (md : Region.Mode) (ops : Array Oper) (listed : Array Bool) (rs : List Job) : Prop where
  nodup : (rs.map (·.i)).Nodup
  there : ∀ p ∈ rs, (∃ o, ops[p.i]? = some o) ∧ listed.getD p.i true = false
  deps : ∀ p ∈ rs, ∀ d ∈ p.deps, ∀ o, ops[p.i]? = some o → ∃ e ∈ o.after, Region.binds md e = true ∧ e.on = d
  edges : ∀ p ∈ rs, ∀ o, ops[p.i]? = some o → ∀ e ∈ o.after, Region.binds md e = true → listed.getD e.on false = true ∨ (e.on < p.i ∧ ∃ q ∈ rs, q.i = e.on)
  apart : ∀ p ∈ rs, ∀ q ∈ rs, p.i ≠ q.i → q.i ∈ p.deps ∨ p.i ∈ q.deps ∨ (∀ op oq, ops[p.i]? = some op → ops[q.i]? = some oq → op.apart ops oq = true)
  dst : ∀ p ∈ rs, ∀ q ∈ rs, p.i ≠ q.i → ∀ d, jdst ops p.i = some d → jdst ops q.i ≠ some d
  rest : ∀ j o, ops[j]? = some o → listed.getD j true = false → (∀ p ∈ rs, p.i ≠ j) →
    (∃ e ∈ o.after, Region.binds md e = true ∧ listed.getD e.on true = false ∧ ∀ p ∈ rs, p.i ≠ e.on) ∨ (∀ p ∈ rs, ∃ n, waits md ops listed n j p.i = true)

theorem nodup_mid {α : Type} {x : α} {l1 l2 : List α} (h : (l1 ++ x :: l2).Nodup) : (x :: (l1 ++ l2)).Nodup := (List.perm_middle.nodup_iff).1 h

theorem BatchOk.shift {listed : Array Bool} {l1 l2 : List Job} {p : Job} (h : BatchOk md ops listed (l1 ++ p :: l2)) (hi : p.i ∈ Region.ready md ops listed) :
    BatchOk md ops (listed.setIfInBounds p.i true) (l1 ++ l2) := by
  have hsub : ∀ q, q ∈ l1 ++ l2 → q ∈ l1 ++ p :: l2 := fun q hq => by
    rcases List.mem_append.1 hq with hq | hq <;> simp [hq]
  have hnd := h.nodup
  rw [List.map_append, List.map_cons] at hnd
  have hne : ∀ q ∈ l1 ++ l2, q.i ≠ p.i := fun q hq e => by
    have h1 := nodup_mid hnd
    rw [List.nodup_cons] at h1
    apply h1.1
    rw [← e, ← List.map_append]
    exact List.mem_map_of_mem hq
  have hsz : p.i < listed.size := by
    have := (h.there p (by simp)).2
    rcases Nat.lt_or_ge p.i listed.size with h' | h'
    · exact h'
    · simp [Array.getElem?_eq_none h'] at this
  refine ⟨?_, ?_, ?_, ?_, ?_, ?_, ?_⟩
  · rw [List.map_append]
    have h1 := nodup_mid hnd
    rw [List.nodup_cons] at h1
    exact h1.2
  · intro q hq
    exact ⟨(h.there q (hsub q hq)).1, by rw [getD_set_ne true (Ne.symm (hne q hq))]; exact (h.there q (hsub q hq)).2⟩
  · intro q hq
    exact h.deps q (hsub q hq)
  · intro q hq o ho e he hb
    rcases h.edges q (hsub q hq) o ho e he hb with h1 | ⟨h1, r, hr, hre⟩
    · exact .inl (getD_set_true h1)
    · by_cases hri : e.on = p.i
      · left
        rw [hri]
        simp [hsz]
      · refine .inr ⟨h1, r, ?_, hre⟩
        rcases List.mem_append.1 hr with hr | hr
        · simp [hr]
        · rcases List.mem_cons.1 hr with hr | hr
          · subst hr; exact absurd hre.symm hri
          · simp [hr]
  · intro q hq r hr
    exact h.apart q (hsub q hq) r (hsub r hr)
  · intro q hq r hr
    exact h.dst q (hsub q hq) r (hsub r hr)
  · intro j o ho hun hnot
    by_cases hj : j = p.i
    · subst hj
      simp [hsz] at hun
    · rw [getD_set_ne true (Ne.symm hj)] at hun
      have hnot' : ∀ q ∈ l1 ++ p :: l2, q.i ≠ j := fun q hq => by
        rcases List.mem_append.1 hq with hq | hq
        · exact hnot q (by simp [hq])
        · rcases List.mem_cons.1 hq with hq | hq
          · subst hq; exact Ne.symm hj
          · exact hnot q (by simp [hq])
      rcases h.rest j o ho hun hnot' with ⟨e, he, hb, hu, hq⟩ | hw
      · refine .inl ⟨e, he, hb, ?_, fun q hq' => hq q (hsub q hq')⟩
        rw [getD_set_ne true (hq p (by simp))]
        exact hu
      · refine .inr fun q hq => ?_
        obtain ⟨n, hn⟩ := hw q (hsub q hq)
        exact ⟨n, waits_shift hi (h.there q (hsub q hq)).2 n j hn⟩

/-- Whoever comes up next is of the batch, as long as one of it is left; and one does. -/
theorem BatchOk.of_ready {listed : Array Bool} {rs : List Job} (h : BatchOk md ops listed rs) (hne : rs ≠ []) {j : Nat} (hj : j ∈ Region.ready md ops listed) : ∃ p ∈ rs, p.i = j := by
  by_cases hp : ∃ p ∈ rs, p.i = j
  · exact hp
  · exfalso
    have hno : ∀ p ∈ rs, p.i ≠ j := fun p hp' e => hp ⟨p, hp', e⟩
    obtain ⟨hun, o, ho, hall⟩ := mem_ready.1 hj
    rcases h.rest j o ho hun hno with ⟨e, he, hb, hu, _⟩ | hw
    · exact getD_false_true (hall e he hb) hu
    · obtain ⟨p, hp'⟩ := List.exists_mem_of_ne_nil rs hne
      obtain ⟨n, hn⟩ := hw p hp'
      exact waits_not_ready hn (h.there p hp').2 hj

theorem least_job : ∀ (rs : List Job), rs ≠ [] → ∃ p ∈ rs, ∀ q ∈ rs, p.i ≤ q.i
  | [], h => absurd rfl h
  | [p], _ => ⟨p, by simp, by simp⟩
  | p :: q :: r, _ => by
    obtain ⟨m, hm, hle⟩ := least_job (q :: r) (by simp)
    by_cases h : p.i ≤ m.i
    · exact ⟨p, by simp, fun x hx => by
        rcases List.mem_cons.1 hx with hx | hx
        · subst hx; exact Nat.le_refl _
        · exact Nat.le_trans h (hle x hx)⟩
    · exact ⟨m, List.mem_cons_of_mem _ hm, fun x hx => by
        rcases List.mem_cons.1 hx with hx | hx
        · subst hx; omega
        · exact hle x hx⟩

theorem BatchOk.ready_ne {listed : Array Bool} {rs : List Job} (h : BatchOk md ops listed rs) (hne : rs ≠ []) : Region.ready md ops listed ≠ [] := by
  obtain ⟨p, hp, hle⟩ := least_job rs hne
  obtain ⟨⟨o, ho⟩, hun⟩ := h.there p hp
  have : p.i ∈ Region.ready md ops listed := mem_ready.2 ⟨hun, o, ho, fun e he hb => by
    rcases h.edges p hp o ho e he hb with h1 | ⟨h1, q, hq, hqe⟩
    · exact h1
    · have := hle q hq
      omega⟩
  intro h0
  rw [h0] at this
  cases this

theorem puts_put {vs : Nat → Value} {i : Nat} {v : Value} : ∀ (l : List Nat) (a : Act), (∀ j ∈ l, ∀ d, jdst ops i = some d → jdst ops j ≠ some d) →
    puts ops vs l (a.put (jdst ops i) v) = (puts ops vs l a).put (jdst ops i) v
  | [], _, _ => rfl
  | j :: r, a, h => by
    simp only [puts, List.foldl_cons]
    rw [Act.put_comm a v (vs j) (h j (by simp))]
    exact puts_put r _ (fun k hk => h k (by simp [hk]))
theorem puts_append (vs : Nat → Value) (l m : List Nat) (a : Act) : puts ops vs (l ++ m) a = puts ops vs m (puts ops vs l a) := by simp [puts]
theorem puts_congr {vs us : Nat → Value} : ∀ (l : List Nat) (a : Act), (∀ j ∈ l, vs j = us j) → puts ops vs l a = puts ops us l a
  | [], _, _ => rfl
  | j :: r, a, h => by
    simp only [puts, List.foldl_cons]
    rw [h j (by simp)]
    exact puts_congr r _ (fun k hk => h k (by simp [hk]))
theorem lists_set (i : Nat) : ∀ (l : List Nat) (b : Array Bool), lists l (b.setIfInBounds i true) = (lists l b).setIfInBounds i true
  | [], _ => rfl
  | j :: r, b => by
    simp only [lists, List.foldl_cons]
    by_cases h : i = j
    · subst h
      exact lists_set i r _
    · rw [Array.setIfInBounds_comm _ _ h]
      exact lists_set i r _
/-- One of them first. -/
theorem puts_middle {vs : Nat → Value} {i : Nat} {l1 l2 : List Nat} (a : Act) (h : ∀ j ∈ l1, ∀ d, jdst ops i = some d → jdst ops j ≠ some d) :
    puts ops vs (l1 ++ i :: l2) a = puts ops vs (l1 ++ l2) (a.put (jdst ops i) (vs i)) := by
  rw [puts_append, puts_append, puts_put l1 a h]
  simp [puts]
theorem lists_middle {i : Nat} {l1 l2 : List Nat} (b : Array Bool) : lists (l1 ++ i :: l2) b = lists (l1 ++ l2) (b.setIfInBounds i true) := by
  have h1 : lists (l1 ++ i :: l2) b = lists l2 ((lists l1 b).setIfInBounds i true) := by simp [lists]
  have h2 : lists (l1 ++ l2) (b.setIfInBounds i true) = lists l2 (lists l1 (b.setIfInBounds i true)) := by simp [lists]
  rw [h1, h2, lists_set i l1]

def ids (rs : List Job) : List Nat := rs.map (·.i)
/-- Those of the batch whose values p reads. -/
def depsIn (p : Job) (rs : List Job) : List Nat := (ids rs).filter fun j => p.deps.contains j

theorem wpAnyH_jobs_aux (hs : Region.noSelect ops = true) {fuel : Nat} : ∀ (n : Nat) (rs : List Job) (listed : Array Bool) (a : Act) (w : World) (T : World → Prop), rs.length = n →
    BatchOk md ops listed rs → (∀ w, T w → S w) → T w → (∀ p ∈ rs, p.pre w) →
    (∀ p ∈ rs, ∀ w w', T w → p.eff w w' → T w') →
    (∀ p ∈ rs, ∀ q ∈ rs, p.i ≠ q.i → ∀ w w', T w → p.eff w w' → (q.pre w → q.pre w') ∧ ∀ v, q.post v w → q.post v w') →
    (∀ p ∈ rs, ∀ vs w0, T w0 → p.pre w0 → (∀ q ∈ rs, q.i ∈ p.deps → q.post (vs q.i) w0) → p.doesAt P ops (puts ops vs (depsIn p rs) a) w0) →
    (∀ vs w', T w' → (∀ p ∈ rs, p.post (vs p.i) w') → wpAnyH P md ops Q S fuel (lists (ids rs) listed) (puts ops vs (ids rs) a) w') →
    wpAnyH P md ops Q S (n + fuel) listed a w := by
  intro n
  induction n with
  | zero =>
    intro rs listed a w T hn _ _ hT _ _ _ _ hnext
    obtain rfl : rs = [] := List.eq_nil_of_length_eq_zero hn
    rw [Nat.zero_add]
    exact hnext (fun _ => undef) w hT (fun p hp => by cases hp)
  | succ n ih =>
    intro rs listed a w T hn hok hTS hT hpre hTe hst hdo hnext
    have hne : rs ≠ [] := by rintro rfl; simp at hn
    rw [Nat.succ_add]
    refine ⟨fun h0 => absurd h0 (hok.ready_ne hne), fun i hi => ?_⟩
    obtain ⟨p, hp, rfl⟩ := hok.of_ready hne hi
    obtain ⟨l1, l2, rfl⟩ := List.append_of_mem hp
    obtain ⟨hready, o, ho, hall⟩ := mem_ready.1 hi
    have hnd := nodup_mid (by have := hok.nodup; rwa [List.map_append, List.map_cons] at this)
    rw [List.nodup_cons, ← List.map_append] at hnd
    have hpne : ∀ q ∈ l1 ++ l2, q.i ≠ p.i := fun q hq e => hnd.1 (by rw [← e]; exact List.mem_map_of_mem hq)
    have hsub : ∀ q, q ∈ l1 ++ l2 → q ∈ l1 ++ p :: l2 := fun q hq => by
      rcases List.mem_append.1 hq with hq | hq <;> simp [hq]
    have hin : p ∈ l1 ++ p :: l2 := by simp
    -- p's own deps have come up
    have hnodep : ∀ q ∈ l1 ++ p :: l2, q.i ∉ p.deps := fun q hq hd => by
      obtain ⟨e, he, hb, heq⟩ := hok.deps p hin _ hd o ho
      have h1 := hall e he hb
      rw [heq] at h1
      exact getD_false_true h1 (hok.there q hq).2
    have hd0 : depsIn p (l1 ++ p :: l2) = [] := by
      unfold depsIn
      rw [List.filter_eq_nil_iff]
      intro j hj
      obtain ⟨q, hq, rfl⟩ := List.mem_map.1 hj
      simpa using hnodep q hq
    have hdoes := hdo p hin (fun _ => undef) w hT (hpre p hin) (fun q hq hd => absurd hd (hnodep q hq))
    rw [hd0] at hdoes
    refine wpOp_of_does ⟨o, ho⟩ hdoes fun v w' he hpost => ?_
    have hT' := hTe p hin w w' hT he
    refine ⟨hTS _ hT', ?_⟩
    have hdst : ∀ j ∈ ids l1, ∀ d, jdst ops p.i = some d → jdst ops j ≠ some d := fun j hj => by
      obtain ⟨q, hq, rfl⟩ := List.mem_map.1 hj
      exact hok.dst p hin q (by simp [hq]) (Ne.symm (hpne q (by simp [hq])))
    refine ih (l1 ++ l2) _ _ w' (fun w => T w ∧ p.post v w) (by simp at hn ⊢; omega) (hok.shift hi) (fun w h => hTS w h.1) ⟨hT', hpost⟩ ?_ ?_ ?_ ?_ ?_
    · exact fun q hq => (hst p hin q (hsub q hq) (Ne.symm (hpne q hq)) w w' hT he).1 (hpre q (hsub q hq))
    · exact fun q hq w w' hw he' => ⟨hTe q (hsub q hq) w w' hw.1 he', (hst q (hsub q hq) p hin (hpne q hq) w w' hw.1 he').2 v hw.2⟩
    · exact fun q hq r hr hqr w w' hw he' => hst q (hsub q hq) r (hsub r hr) hqr w w' hw.1 he'
    · intro q hq vs w0 hT0 hq0 hposts
      have hqin := hsub q hq
      by_cases hdep : p.i ∈ q.deps
      · have h1 := hdo q hqin (fun j => if j = p.i then v else vs j) w0 hT0.1 hq0 (fun r hr hrd => by
          by_cases hrp : r.i = p.i
          · have hrp' : r = p := by
              rcases List.mem_append.1 hr with hr' | hr'
              · exact absurd hrp (hpne r (by simp [hr']))
              · rcases List.mem_cons.1 hr' with hr' | hr'
                · exact hr'
                · exact absurd hrp (hpne r (by simp [hr']))
            subst hrp'
            simp only [if_true]
            exact hT0.2
          · simp only [if_neg hrp]
            refine hposts r ?_ hrd
            rcases List.mem_append.1 hr with hr' | hr'
            · simp [hr']
            · rcases List.mem_cons.1 hr' with hr' | hr'
              · subst hr'; exact absurd rfl hrp
              · simp [hr'])
        have hf : depsIn q (l1 ++ p :: l2) = ((ids l1).filter fun j => q.deps.contains j) ++ p.i :: ((ids l2).filter fun j => q.deps.contains j) := by
          simp [depsIn, ids, List.filter_append, hdep]
        have hf' : depsIn q (l1 ++ l2) = ((ids l1).filter fun j => q.deps.contains j) ++ ((ids l2).filter fun j => q.deps.contains j) := by
          simp [depsIn, ids, List.filter_append]
        rw [hf, puts_middle a (fun j hj => hdst j ((List.mem_filter.1 hj).1)), ← hf'] at h1
        simp only [if_true] at h1
        rw [puts_congr (us := vs) _ _ (fun j hj => by
          have hj' := (List.mem_filter.1 hj).1
          obtain ⟨r, hr, rfl⟩ := List.mem_map.1 hj'
          simp only [if_neg (hpne r hr)])] at h1
        exact h1
      · have h1 := hdo q hqin vs w0 hT0.1 hq0 (fun r hr hrd => by
          refine hposts r ?_ hrd
          rcases List.mem_append.1 hr with hr' | hr'
          · simp [hr']
          · rcases List.mem_cons.1 hr' with hr' | hr'
            · subst hr'; exact absurd hrd hdep
            · simp [hr'])
        have hf : depsIn q (l1 ++ p :: l2) = depsIn q (l1 ++ l2) := by
          simp [depsIn, ids, List.filter_append, hdep]
        rw [hf] at h1
        rw [puts_put _ a (fun j hj => by
          have hj' := (List.mem_filter.1 hj).1
          obtain ⟨r, hr, rfl⟩ := List.mem_map.1 hj'
          exact hok.dst p hin r (hsub r hr) (Ne.symm (hpne r hr)))]
        intro oq hoq
        obtain ⟨hw, hu⟩ := h1 oq hoq
        have hap : o.apart ops oq = true := by
          rcases hok.apart p hin q hqin (Ne.symm (hpne q hq)) with h2 | h2 | h2
          · exact absurd h2 (hnodep q hqin)
          · exact absurd h2 hdep
          · exact h2 o oq ho hoq
        have hjd : jdst ops p.i = o.dst := by simp [jdst, ho]
        obtain ⟨k1, _, _⟩ := Oper.apart_spec hap
        rw [hjd, wanted_put oq _ o.dst v k1, execOp_put (ops := ops) oq (fun cs b => Region.noSelect_spec hs q.i oq cs b hoq) _ o.dst v k1]
        exact ⟨hw, hu⟩
    · intro vs w2 hT2 hposts
      have h1 := hnext (fun j => if j = p.i then v else vs j) w2 hT2.1 (fun r hr => by
        by_cases hrp : r.i = p.i
        · have hrp' : r = p := by
            rcases List.mem_append.1 hr with hr' | hr'
            · exact absurd hrp (hpne r (by simp [hr']))
            · rcases List.mem_cons.1 hr' with hr' | hr'
              · exact hr'
              · exact absurd hrp (hpne r (by simp [hr']))
          subst hrp'
          simp only [if_true]
          exact hT2.2
        · simp only [if_neg hrp]
          refine hposts r ?_
          rcases List.mem_append.1 hr with hr' | hr'
          · simp [hr']
          · rcases List.mem_cons.1 hr' with hr' | hr'
            · subst hr'; exact absurd rfl hrp
            · simp [hr'])
      have hids : ids (l1 ++ p :: l2) = ids l1 ++ p.i :: ids l2 := by simp [ids]
      have hids' : ids (l1 ++ l2) = ids l1 ++ ids l2 := by simp [ids]
      rw [hids, puts_middle a hdst, lists_middle, ← hids'] at h1
      simp only [if_true] at h1
      rw [puts_congr (us := vs) _ _ (fun j hj => by
        obtain ⟨r, hr, rfl⟩ := List.mem_map.1 hj
        simp only [if_neg (hpne r hr)])] at h1
      exact h1

/-- The closed check. -/
def batchB (md : Region.Mode) (ops : Array Oper) (listed : Array Bool) (fuel : Nat) (rs : List (Nat × List Nat)) : Bool :=
  decide ((rs.map (·.1)).Nodup) &&
  (rs.all fun p => (ops[p.1]?).isSome && !listed.getD p.1 true) &&
  (rs.all fun p => p.2.all fun d => match ops[p.1]? with | some o => o.after.any (fun e => Region.binds md e && e.on == d) | none => true) &&
  (rs.all fun p => match ops[p.1]? with | some o => o.after.all (fun e => !Region.binds md e || listed.getD e.on false || (decide (e.on < p.1) && rs.any (fun q => q.1 == e.on))) | none => true) &&
  (rs.all fun p => rs.all fun q => p.1 == q.1 || p.2.contains q.1 || q.2.contains p.1 || match ops[p.1]?, ops[q.1]? with | some op, some oq => op.apart ops oq | _, _ => true) &&
  (rs.all fun p => rs.all fun q => p.1 == q.1 || match jdst ops p.1 with | some d => jdst ops q.1 != some d | none => true) &&
  ((List.range ops.size).all fun j => listed.getD j true || rs.any (fun q => q.1 == j) || match ops[j]? with
    | some o => o.after.any (fun e => Region.binds md e && !listed.getD e.on true && !rs.any (fun q => q.1 == e.on)) || rs.all (fun p => waits md ops listed fuel j p.1)
    | none => true)

theorem batchOk_of {listed : Array Bool} {fuel : Nat} {rs : List Job} (h : batchB md ops listed fuel (rs.map fun p => (p.i, p.deps)) = true) : BatchOk md ops listed rs := by
  simp only [batchB, Bool.and_eq_true, List.all_map, List.any_map, List.map_map, Function.comp_def] at h
  obtain ⟨⟨⟨⟨⟨⟨h1, h2⟩, h3⟩, h4⟩, h5⟩, h6⟩, h7⟩ := h
  refine ⟨by simpa [Function.comp_def] using h1, ?_, ?_, ?_, ?_, ?_, ?_⟩
  · intro p hp
    have := List.all_eq_true.1 h2 p hp
    simp only [Bool.and_eq_true, Bool.not_eq_true'] at this
    exact ⟨Option.isSome_iff_exists.1 this.1, this.2⟩
  · intro p hp d hd o ho
    have := List.all_eq_true.1 (List.all_eq_true.1 h3 p hp) d hd
    simp only [ho] at this
    obtain ⟨e, he, hb⟩ := Array.any_eq_true'.1 this
    simp only [Bool.and_eq_true, beq_iff_eq] at hb
    exact ⟨e, he, hb⟩
  · intro p hp o ho e he hb
    have := List.all_eq_true.1 h4 p hp
    simp only [ho] at this
    have := Array.all_eq_true_iff_forall_mem.1 this e he
    simp only [hb, Bool.not_true, Bool.false_or, Bool.or_eq_true, Bool.and_eq_true, decide_eq_true_eq] at this
    rcases this with h | ⟨h, h'⟩
    · exact .inl h
    · obtain ⟨q, hq, he'⟩ := List.any_eq_true.1 h'
      exact .inr ⟨h, q, hq, by simpa using he'⟩
  · intro p hp q hq hne
    have := List.all_eq_true.1 (List.all_eq_true.1 h5 p hp) q hq
    simp only [Bool.or_eq_true, beq_iff_eq, hne, false_or, List.contains_iff_mem] at this
    rcases this with (h | h) | h
    · exact .inl h
    · exact .inr (.inl h)
    · refine .inr (.inr fun op oq ho hoq => ?_)
      simpa [ho, hoq] using h
  · intro p hp q hq hne d hd
    have := List.all_eq_true.1 (List.all_eq_true.1 h6 p hp) q hq
    simp only [Bool.or_eq_true, beq_iff_eq, hne, false_or, hd] at this
    simpa using this
  · intro j o ho hun hnot
    have hlt := (Array.getElem?_eq_some_iff.1 ho).1
    have := List.all_eq_true.1 h7 j (List.mem_range.2 hlt)
    simp only [hun, Bool.false_or, Bool.or_eq_true, ho] at this
    rcases this with h | h | h
    · obtain ⟨q, hq, he⟩ := List.any_eq_true.1 h
      exact absurd (by simpa using he) (hnot q hq)
    · obtain ⟨e, he, hb⟩ := Array.any_eq_true'.1 h
      simp only [Bool.and_eq_true, Bool.not_eq_true'] at hb
      refine .inl ⟨e, he, hb.1.1, hb.1.2, fun p hp hpe => ?_⟩
      have := List.any_eq_false.1 hb.2 p hp
      simp [hpe] at this
    · exact .inr fun p hp => ⟨fuel, List.all_eq_true.1 h p hp⟩

/-- **A batch**: its operations come up in whatever order. -/
theorem wpAnyH_jobs (rs : List Job) (fuel depth : Nat) {n : Nat} {listed : Array Bool} {a : Act} {w : World} (T : World → Prop) (hs : Region.noSelect ops = true) (hn : n = rs.length + fuel)
    (hok : batchB md ops listed depth (rs.map fun p => (p.i, p.deps)) = true) (hTS : ∀ w, T w → S w) (hT : T w) (hpre : ∀ p ∈ rs, p.pre w)
    (hTe : ∀ p ∈ rs, ∀ w w', T w → p.eff w w' → T w')
    (hst : ∀ p ∈ rs, ∀ q ∈ rs, p.i ≠ q.i → ∀ w w', T w → p.eff w w' → (q.pre w → q.pre w') ∧ ∀ v, q.post v w → q.post v w')
    (hdo : ∀ p ∈ rs, ∀ vs w0, T w0 → p.pre w0 → (∀ q ∈ rs, q.i ∈ p.deps → q.post (vs q.i) w0) → p.doesAt P ops (puts ops vs (depsIn p rs) a) w0)
    (hnext : ∀ vs w', T w' → (∀ p ∈ rs, p.post (vs p.i) w') → wpAnyH P md ops Q S fuel (lists (ids rs) listed) (puts ops vs (ids rs) a) w') :
    wpAnyH P md ops Q S n listed a w := by
  subst hn
  exact wpAnyH_jobs_aux hs rs.length rs listed a w T rfl (batchOk_of hok) hTS hT hpre hTe hst hdo hnext
end
end Go.Proofs.YtpdjolkbjcdimaaDoor
