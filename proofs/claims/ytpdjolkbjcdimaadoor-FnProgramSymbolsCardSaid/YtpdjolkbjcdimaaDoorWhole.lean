/- A struct that is a whole block: its load, its store, its reading as a result. No program is in sight here. -/
import Derived.Test.YtpdjolkbjcdimaaDoorBase
import Derived.Deep.MidRow
import Derived.Laws.CopyRow
namespace Go.Proofs.YtpdjolkbjcdimaaDoor
open Go.RowKit
section
variable {w : World} {g : Nat} {t : TypeId} {cs : Array Value}
theorem Blk.range_ (h : Blk w g t cs) : w.rangeAt g 0 cs.toList := fun j v hv => by
  rw [Nat.zero_add, h.cell j]; simpa using hv
theorem Blk.there_ (h : Blk w g t cs) : w.there g 0 cs.size := fun j hj =>
  ⟨by rw [Nat.zero_add, h.cell j, Array.getElem?_eq_getElem hj]; rfl, by rw [Nat.zero_add]; exact h.frozen j⟩
/-- A store of what stands there leaves the world. -/
theorem Blk.set_self (h : Blk w g t cs) (o : Nat) (v : Value) (hv : cs[o]? = some v) : w.setCell ⟨g, o, none⟩ v = w := by
  have h2 := h.set_ o v
  have hcs : cs.setIfInBounds o v = cs := by
    apply Array.ext_getElem?
    intro i
    rw [Array.getElem?_setIfInBounds]
    split
    · next e => subst e; rw [if_pos (Array.getElem?_eq_some_iff.1 hv).1, hv]
    · rfl
  rw [hcs] at h2
  have hh : (w.setCell ⟨g, o, none⟩ v).heap = w.heap := by
    apply Array.ext_getElem?
    intro i
    by_cases e : i = g
    · subst e; exact h2.trans h.symm
    · exact Below.heap_setCell w ⟨g, o, none⟩ v i e
  cases w
  simp only [World.setCell] at hh ⊢
  rw [hh]
theorem Blk.setCells_self (h : Blk w g t cs) : ∀ (vs : List Value) (o : Nat), (∀ j v, vs[j]? = some v → cs[o + j]? = some v) → w.setCells g o vs = w
  | [], _, _ => rfl
  | v :: r, o, hv => by
    rw [World.setCells, h.set_self o v (by simpa using hv 0 v rfl)]
    exact Blk.setCells_self h r (o + 1) (fun j u hu => by rw [Nat.add_assoc, Nat.add_comm 1]; exact hv (j + 1) u (by simpa using hu))
theorem Blk.setCells_all (h : Blk w g t cs) : w.setCells g 0 cs.toList = w := h.setCells_self _ 0 (fun j v hv => by rw [Nat.zero_add]; simpa using hv)
variable {P : Program}
theorem wpList_load_whole {ops : Array Oper} {rest : List Oper} {op : Oper} {a : Act} {Q : Exit → Act → World → Prop} (h : Blk w g t cs) (ty : TypeId) (d : TypeDesc)
    (hu : P.underlying ty = some d) (hd : d.isRow = true) (hi : (P.info? ty).map (·.size) = some cs.size) (hgd : op.guard = none) (x : Operand) (ho : op.op = .load ty x)
    (hx : a.eval x = .pointer (some ⟨g, 0, none⟩)) (hk : wpList P ops Q rest (a.put op.dst (.agg cs)) w) : wpList P ops Q (op :: rest) a w :=
  wpList_load_mid hgd ty x ho g 0 hx cs.toList d h.range_ hu hd (by simpa using hi) (by simpa using hk)
/-- What stands there is stored there. -/
theorem wpList_store_same {ops : Array Oper} {rest : List Oper} {op : Oper} {a : Act} {Q : Exit → Act → World → Prop} (h : Blk w g t cs) (h1 : cs.all (·.oneCell') = true) (ty : TypeId)
    (hi : (P.info? ty).map (·.size) = some cs.size) (hgd : op.guard = none) (x y : Operand) (ho : op.op = .store ty x y)
    (hx : a.eval x = .pointer (some ⟨g, 0, none⟩)) (hy : a.eval y = .agg cs) (hk : wpList P ops Q rest (a.put op.dst undef) w) : wpList P ops Q (op :: rest) a w :=
  wpList_store_mid hgd ty x y ho g 0 cs hx hy h.there_ hi h1 (by rw [h.setCells_all]; exact hk)
theorem results_whole_tmp {fn : Func} {p q : Tmp} {ty : TypeId} (hr : fn.results = #[.cell p ty, .tmp q]) (tmps : Array Value) (h : Blk w g t cs) (d : TypeDesc)
    (hp : tmps.getD p undef = .pointer (some ⟨g, 0, none⟩)) (hu : P.underlying ty = some d) (hd : d.isRow = true) (hi : (P.info? ty).map (·.size) = some cs.size) :
    (results fn tmps).run P w = .ok (.tuple #[.agg cs, tmps.getD q undef]) w := by
  have hp' : tmps[p]?.getD undef = .pointer (some ⟨g, 0, none⟩) := by simpa using hp
  have hl := run_loadVar_mid (P := P) w g 0 ty cs.toList d h.range_ hu hd (by simpa using hi)
  simp [results, hr, hp', asAddr, hl]
end
end Go.Proofs.YtpdjolkbjcdimaaDoor
