/- What append, copy and the conversions between bytes and text do with bytes that stand somewhere (nil and empty slices let in), over any program. -/
import Derived.Test.YtpdjolkbjcdimaaDoorBase
import Derived.Maps.AppendAt
import Derived.Laws.BytesArg
import Derived.Laws.CopyRow
import Derived.RegionTactic
import Derived.OwnWalk
namespace Go.Proofs.YtpdjolkbjcdimaaDoor
open Go.RowKit

/-- A text as a value. -/
def txt (l : List UInt8) : ByteArray := ⟨l.toArray⟩

section
variable {P : Program} (w : World)

/-- 'append(v, src...)', v nil or of the call's own, src nil, empty or not; whatever one-cell elements. -/
theorem run_append_src (base : Nat) (t ty e : TypeId) (i : TypeInfo) (z : Value) (bytes : Nat) (ht : P.underlying t = some (.slice e)) (hi : P.info? e = some i) (hz : i.zero = some z)
    (hsize : i.size = 1) (hby : i.bytes = bytes) (hzs : z.cells.size = 1)
    (v : Value) (n : Nat) (xs : List Value) (hown : w.ownsRow base e 1 v n xs)
    (A : Option Addr) (m c : Nat) (news : List Value) (hl : news.length = m) (hnone : A = none → m = 0)
    (hr : ∀ ad, A = some ad → ∀ j u, news[j]? = some u → w.cell? (ad.add j) = some u) (h1 : ∀ u ∈ news, u.oneCell' = true)
    (h63 : n + m ≤ maxLen) (hbytes : (n + m) * bytes ≤ 140737488355328) (hbase : base ≤ w.heap.size) :
    ∃ v' w', (Builtin.append_ #[t, t] ty #[v, .slice A m c]).run P w = .ok v' w' ∧ w'.ownsRow base e 1 v' (n + m) (xs ++ news) ∧ w.grownBy w' v.ownBlock ∧
      (v'.ownBlock = v.ownBlock ∨ v'.ownBlock = some w.heap.size) := by
  rcases A with _ | ad
  · obtain rfl := hnone rfl
    obtain rfl : news = [] := List.eq_nil_of_length_eq_zero hl
    refine ⟨v, w, ?_, by simpa using hown, World.grownBy.refl w _, .inl rfl⟩
    rcases hown.2 with ⟨rfl, rfl⟩ | ⟨g, cap, cur, rfl, _, _, hnc, _⟩
    · simp [Builtin.append_, run_underlying ht, sizeOf, typeInfo, hi, Builtin.lenOf, Builtin.firstCells]
    · simp [Builtin.append_, run_underlying ht, sizeOf, typeInfo, hi, Builtin.lenOf, Builtin.firstCells, hnc, storeCells]
  · obtain ⟨v', w', hrun, h2, h3, _, h5⟩ := run_append_own_at (P := P) w base t ty e i z 1 bytes ht hi hz hsize hby hzs (by omega) v n xs hown ad m c news (by omega) (hr ad rfl) h1 h63 hbytes hbase
    exact ⟨v', w', hrun, h2, h3, h5⟩

theorem wpList_append_src {w : World} {ops : Array Oper} {rest : List Oper} {o : Oper} {a : Act} {Q : Exit → Act → World → Prop} (hgd : o.guard = none) (s x : Operand) (t : TypeId)
    (ho : o.op = .call { callee := .builtin .append, args := #[s, x], argTypes := #[t, t] })
    (base : Nat) (e : TypeId) (i : TypeInfo) (z : Value) (bytes : Nat) (ht : P.underlying t = some (.slice e)) (hi : P.info? e = some i) (hz : i.zero = some z)
    (hsize : i.size = 1) (hby : i.bytes = bytes) (hzs : z.cells.size = 1)
    (v : Value) (n : Nat) (xs : List Value) (hs : a.eval s = v) (hown : w.ownsRow base e 1 v n xs)
    (A : Option Addr) (m c : Nat) (news : List Value) (hx : a.eval x = .slice A m c) (hl : news.length = m) (hnone : A = none → m = 0)
    (hr : ∀ ad, A = some ad → ∀ j u, news[j]? = some u → w.cell? (ad.add j) = some u) (h1 : ∀ u ∈ news, u.oneCell' = true)
    (h63 : n + m ≤ maxLen) (hbytes : (n + m) * bytes ≤ 140737488355328) (hbase : base ≤ w.heap.size)
    (h : ∀ v' w', w'.ownsRow base e 1 v' (n + m) (xs ++ news) → w.grownBy w' v.ownBlock → (v'.ownBlock = v.ownBlock ∨ v'.ownBlock = some w.heap.size) → wpList P ops Q rest (a.put o.dst v') w') : wpList P ops Q (o :: rest) a w :=
  wpList_plain hgd fun K hK => by
    obtain ⟨v', w', hrun, h2, h3, h4⟩ := run_append_src (P := P) w base t o.type e i z bytes ht hi hz hsize hby hzs v n xs hown A m c news hl hnone hr h1 h63 hbytes hbase
    unfold Oper.wp execOp
    simp only [ho, resolve, invoke, builtin, Sem.run_bind, Sem.run_pure, Result.andThen_ok, List.map_toArray, List.map_cons, List.map_nil, hs, hx, hrun]
    exact hK _ _ (h v' w' h2 h3 h4)

theorem add_off (b o j : Nat) : (⟨b, o, none⟩ : Addr).add j = ⟨b, o + j, none⟩ := by unfold Addr.add; split <;> simp_all
theorem add_block (a : Addr) (j : Nat) : (a.add j).block = a.block := by unfold Addr.add; split <;> rfl
theorem addr_zero (A : Option Addr) : A.map (fun x => x.add 0) = A := by cases A <;> simp [Addr.add]
/-- What the two laws above ask of bytes that stand somewhere. -/
theorem Bs.none_ {w : World} {A : Option Addr} {l : List UInt8} (h : Bs w A l) : A = none → l.length = 0 := fun hA => by
  rcases Nat.eq_zero_or_pos l.length with h0 | h0
  · exact h0
  · obtain ⟨b, o, he, _⟩ := h.at_ h0
    rw [hA] at he
    cases he
theorem Bs.cells_ {w : World} {A : Option Addr} {l : List UInt8} (h : Bs w A l) : ∀ ad, A = some ad → ∀ j u, (bvs l)[j]? = some u → w.cell? (ad.add j) = some u := by
  intro ad hA j u hu
  have hj : j < l.length := by
    have := (List.getElem?_eq_some_iff.1 hu).1
    rwa [bvs_length] at this
  obtain ⟨b, o, he, _, hc⟩ := h.at_ hj
  rw [hA] at he
  injection he with he
  subst he
  rw [add_off, hc j hj, ← hu, bvs_get l j hj]

theorem one_cell (w : World) (t : TypeId) (x : Value) : ∀ ad, some (⟨w.heap.size, 0, none⟩ : Addr) = some ad → ∀ (j : Nat) (u : Value), [x][j]? = some u → (w.alloc (.cells #[x] t)).cell? (ad.add j) = some u := by
  intro ad h j u hj
  injection h with h
  subst h
  rw [add_off, cell_of_row _ w.heap.size (0 + j) _ t (0, 0) (heap_alloc_new w _)]
  simpa using hj
theorem own_form {w : World} {base e size n : Nat} {v : Value} {xs : List Value} (h : w.ownsRow base e size v n xs) : ∃ A c, v = .slice A n c := by
  rcases h.2 with ⟨rfl, rfl⟩ | ⟨g, cap, cur, rfl, _⟩
  · exact ⟨_, _, rfl⟩
  · exact ⟨_, _, rfl⟩
theorem own_base {w : World} {base e size n : Nat} {v : Value} {xs : List Value} (h : w.ownsRow base e size v n xs) : ∀ g, v.ownBlock = some g → base ≤ g := fun g hg => (h.lt g hg).1
/-- 'string(b)' of bytes that stand somewhere. -/
theorem Bs.text {w : World} {A : Option Addr} {l : List UInt8} (h : Bs w A l) (n c : Nat) (hl : l.length = n) (src e dst : TypeId)
    (hs : P.underlying src = some (.slice e)) (he : P.underlying e = some (.int .u8)) (hd : P.underlying dst = some .string) :
    (convert src dst (.slice A n c)).run P w = .ok (.string (txt l)) w := by
  subst hl
  rcases Nat.eq_zero_or_pos l.length with hn | hn
  · obtain rfl : l = [] := List.eq_nil_of_length_eq_zero hn
    show (convert src dst (.slice A 0 c)).run P w = _
    rw [run_convert_bytes_string w src dst e _ 0 c hs he hd]
    cases A <;> simp [Conv.bytesToString, loadCells]
    all_goals rfl
  · obtain ⟨b, o, rfl, _, hc⟩ := h.at_ hn
    have := run_convert_bytes_arg (P := P) w src e hs he b o l.length c (l.map fun x => (x.toNat : Int)) (by simp) (fun i hi => by
      rw [hc i hi]
      simp [List.getElem?_eq_getElem hi]) dst hd
    rw [this]
    congr 1
    unfold txt
    congr 1
    unfold strOfNums
    congr 1
    simp [Function.comp_def]
end

/-- Behind a cut at a place inside. -/
theorem Bs.from_ {w : World} {b o : Nat} {l : List UInt8} (h : ∀ i, i < l.length → w.cell? ⟨b, o + i, none⟩ = some (.int .u8 ((l[i]?.getD 0).toNat : Int))) (hb : b < w.heap.size) (k : Nat) :
    Bs w (some ⟨b, o + k, none⟩) (l.drop k) := fun _ => ⟨b, o + k, rfl, hb, fun i hi => by
  have := h (k + i) (by simp at hi; omega)
  rw [List.getElem?_drop, Nat.add_assoc]
  exact this⟩

/-- copy into a known block, from bytes that stand somewhere: the first of them, as many as both hold. -/
theorem run_copy_bs {P : Program} {w : World} (dT sT ty elem : TypeId) (g o dLen dCap : Nat) (A : Option Addr) (sLen sCap : Nat) (cur : Array Value) (t : TypeId) (l : List UInt8)
    (hu : P.underlying dT = some (.slice elem)) (hs : (P.info? elem).map (·.size) = some 1)
    (hg : Blk w g t cur) (hb : Bs w A l) (hn : l.length = sLen) (hfit : o + dLen ≤ cur.size) :
    (Builtin.copy_ #[dT, sT] ty #[.slice (some ⟨g, o, none⟩) dLen dCap, .slice A sLen sCap]).run P w =
      .ok (goInt (Nat.min sLen dLen)) (w.setRow g (cur.toList.take o ++ bvs (l.take dLen) ++ cur.toList.drop (o + Nat.min sLen dLen)).toArray) := by
  have hl : (bvs (l.take dLen)).length = Nat.min sLen dLen := by simp [bvs_length, hn, Nat.min_comm]
  rcases A with _ | a
  · have h0 := hb.none_ rfl
    obtain rfl : l = [] := List.eq_nil_of_length_eq_zero h0
    obtain rfl : sLen = 0 := by simpa using hn.symm
    have hself : w.setRow g (cur.toList.take o ++ bvs (([] : List UInt8).take dLen) ++ cur.toList.drop (o + Nat.min 0 dLen)).toArray = w := by
      simp only [List.take_nil, bvs, List.map_nil, List.append_nil, Nat.zero_min, Nat.add_zero, List.take_append_drop, Array.toArray_toList]
      exact setRow_self w g cur t (0, 0) hg
    rw [hself]
    cases hq : P.info? elem with
    | none => simp [hq] at hs
    | some i => simp [Builtin.copy_, run_underlying hu, Builtin.lenOf, Builtin.firstCells, sizeOf, typeInfo, hq, storeCells]
  · have hr := run_copy_row P w dT sT ty elem g o dLen dCap a sLen sCap cur t (bvs (l.take dLen)) hu hs hg hl (fun j v hj => by
      have hj' : j < (l.take dLen).length := by
        have := (List.getElem?_eq_some_iff.1 hj).1
        rwa [bvs_length] at this
      exact (hb.take dLen).cells_ a rfl j v hj) (by rw [hl]; have h9 : Nat.min sLen dLen ≤ dLen := Nat.min_le_right sLen dLen; omega) (bvs_one _)
    rw [hr, hl]
end Go.Proofs.YtpdjolkbjcdimaaDoor
