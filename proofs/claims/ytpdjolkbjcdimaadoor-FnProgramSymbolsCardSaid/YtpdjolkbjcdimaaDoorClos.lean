/- The two functions that newTable hands to walksymtab: one counts, one fills the table of symbols. -/
import Derived.Test.YtpdjolkbjcdimaaDoorWalkt
import Derived.Laws.BytesString
namespace Go.Proofs.YtpdjolkbjcdimaaDoor
open Go.RowKit

set_option maxHeartbeats 400000 in
theorem count_any (cn k : Nat) (v : Nat) (t : Int) (A : Option Addr) (m c : Nat) (w : World) (h : Blk w cn 3 #[.int .i64 k]) (hk : k ≤ 1000000) :
    Calls Tryd.prog 50 #[.agg #[.int .u64 v, .int .u8 t, .slice A m c], .pointer (some ⟨cn, 0, none⟩)] w fun e w' => (∃ u, e = .returned u) ∧ Blk w' cn 3 #[.int .i64 (k + 1 : Nat)] ∧ Keeps (fun b => b = cn) w w' := by
  have hlt := h.lt
  have c0 := h.cell 0
  have f0 := h.frozen 0
  simp only [List.getElem?_toArray, List.getElem?_cons_zero] at c0
  have hne : ¬ w.heap.size = cn := by omega
  have HB := Lib.hid h
  clear h
  go_enter Tryd.func50, Tryd.ntmps50
  go_wp2_with fail
  go_ret
  have h1 := (HB.out.set_ 0 (.int .i64 ((k + 1 : Nat) : Int))).alloc (.cells #[.int .u64 v, .int .u8 t, .slice A m c] 127)
  simp only [List.setIfInBounds_toArray, List.set_cons_zero] at h1
  exact ⟨⟨_, rfl⟩, by simpa using h1, by simpa using ((Keeps.refl (fun b => b = cn) w).setCell (p := ⟨cn, 0, none⟩) (fun _ => rfl) (.int .i64 ((k + 1 : Nat) : Int))).alloc (.cells #[.int .u64 v, .int .u8 t, .slice A m c] 127)⟩

/-- The table of symbols as far as k of N are filled. -/
structure Fills (ct gs N : Nat) (xs : List Sm) (k : Nat) (w : World) : Prop where
  cell : Blk w ct 88 #[.slice (some ⟨gs, 0, none⟩) k N]
  row : ∃ cs : Array Value, Blk w gs 104 cs ∧ cs.size = N * 3 ∧ ∀ (j : Nat) (s : Sm), j < k → xs[j]? = some s → cs[j * 3]? = some (.int .u64 s.v) ∧ cs[j * 3 + 1]? = some (.int .i32 s.t) ∧ cs[j * 3 + 2]? = some (.string s.n)
  apart : ct ≠ gs

theorem Fills.keeps {ct gs N k : Nat} {xs : List Sm} {w w' : World} {S : Nat → Prop} (h : Fills ct gs N xs k w) (hK : Keeps S w w') (h1 : ¬ S ct) (h2 : ¬ S gs) : Fills ct gs N xs k w' := by
  obtain ⟨cs, hb, hr⟩ := h.row
  exact ⟨h.cell.keeps hK h1, ⟨cs, hb.keeps hK h2, hr⟩, h.apart⟩

set_option maxRecDepth 100000 in
set_option maxHeartbeats 800000 in
theorem fill_any (ct gs N k : Nat) (pm : Value) (xs : List Sm) (s : Sm) (A : Option Addr) (c : Nat) (w : World) (h : Fills ct gs N xs k w) (hxk : xs[k]? = some s) (hN : xs.length ≤ N) (hN1 : N ≤ 1000000)
    (hk : s.t = 84 ∨ s.t = 116 ∨ s.t = 68 ∨ s.t = 100 ∨ s.t = 66 ∨ s.t = 98) (hb : Bs w A s.n.data.toList) (hA : ∀ b o, A = some ⟨b, o, none⟩ → b ≠ ct ∧ b ≠ gs) :
    Calls Tryd.prog 51 #[.agg #[.int .u64 s.v, .int .u8 s.t, .slice A s.n.size c], .pointer (some ⟨ct, 0, none⟩), pm] w fun e w' => (∃ u, e = .returned u) ∧ Fills ct gs N xs (k + 1) w' ∧ Keeps (fun b => b = ct ∨ b = gs) w w' := by
  obtain ⟨cs, hrow, hsz, hcs⟩ := h.row
  have hap := h.apart
  have hcell := h.cell
  have hkN : k < N := by have := (List.getElem?_eq_some_iff.1 hxk).1; omega
  have l1 := hcell.lt
  have l2 := hrow.lt
  have c0 := hcell.cell 0
  have f0 := hcell.frozen 0
  simp only [List.getElem?_toArray, List.getElem?_cons_zero] at c0
  have htx : txt s.n.data.toList = s.n := by simp [txt]
  have hcv := ((((hb.far_ (p := ⟨ct, 0, none⟩) (fun b o h => (hA b o h).1) (.slice (some ⟨gs, 0, none⟩) (k + 1) N)).far_ (p := ⟨gs, k * 3 + 1, none⟩) (fun b o h => (hA b o h).2) (.int .i32 s.t)).far_ (p := ⟨gs, k * 3, none⟩) (fun b o h => (hA b o h).2) (.int .u64 s.v)).alloc (.cells #[.int .u64 s.v, .int .u8 s.t, .slice A s.n.size c] 127)).text (P := Tryd.prog) s.n.size c (by simp) 22 5 9 Tryd.underlying22 Tryd.underlying5 Tryd.underlying9
  rw [htx] at hcv
  have o0 : ∃ u, w.cell? ⟨gs, k * 3, none⟩ = some u := ⟨_, by rw [hrow.cell]; exact Array.getElem?_eq_getElem (by omega)⟩
  have o1 : ∃ u, w.cell? ⟨gs, k * 3 + 1, none⟩ = some u := ⟨_, by rw [hrow.cell]; exact Array.getElem?_eq_getElem (by omega)⟩
  have o2 : ∃ u, w.cell? ⟨gs, k * 3 + 2, none⟩ = some u := ⟨_, by rw [hrow.cell]; exact Array.getElem?_eq_getElem (by omega)⟩
  obtain ⟨u0, o0⟩ := o0
  obtain ⟨u1, o1⟩ := o1
  obtain ⟨u2, o2⟩ := o2
  have z0 := hrow.frozen (k * 3)
  have z1 := hrow.frozen (k * 3 + 1)
  have z2 := hrow.frozen (k * 3 + 2)
  have n1 : ¬ w.heap.size = ct := by omega
  have n2 : ¬ w.heap.size = gs := by omega
  have n3 : ¬ ct = w.heap.size := by omega
  have n4 : ¬ gs = w.heap.size := by omega
  have n5 : ¬ ct = gs := hap
  have n6 : ¬ gs = ct := fun h => hap h.symm
  have hs1 : ¬ s.t = 122 := by omega
  have hs2 : ¬ s.t = 90 := by omega
  have hs3 : ¬ s.t = 102 := by omega
  have hs4 : 0 ≤ s.t ∧ s.t ≤ 127 := by omega
  obtain ⟨hs5, hs6⟩ := hs4
  have HC := Lib.hid hcell
  have HR := Lib.hid hrow
  have HZ := Lib.hid hsz
  have HCS := Lib.hid hcs
  have HX := Lib.hid hxk
  clear h hcell hrow hsz hcs hxk hb hap hA htx
  go_enter Tryd.func51, Tryd.ntmps51
  go_wp2_with fail
  go_ret
  have a1 := ((((HC.out.set_ 0 (.slice (some ⟨gs, 0, none⟩) (k + 1) N)).far (p := ⟨gs, k * 3 + 1, none⟩) n5 (.int .i32 s.t)).far (p := ⟨gs, k * 3, none⟩) n5 (.int .u64 s.v)).far (p := ⟨gs, k * 3 + 2, none⟩) n5 (.string s.n)).alloc (.cells #[.int .u64 s.v, .int .u8 s.t, .slice A s.n.size c] 127)
  have a2 := ((((HR.out.far (p := ⟨ct, 0, none⟩) n6 (.slice (some ⟨gs, 0, none⟩) (k + 1) N)).set_ (k * 3 + 1) (.int .i32 s.t)).set_ (k * 3) (.int .u64 s.v)).set_ (k * 3 + 2) (.string s.n)).alloc (.cells #[.int .u64 s.v, .int .u8 s.t, .slice A s.n.size c] 127)
  have a3 := (((((Keeps.refl (fun b => b = ct ∨ b = gs) w).setCell (p := ⟨ct, 0, none⟩) (fun _ => .inl rfl) (.slice (some ⟨gs, 0, none⟩) (k + 1) N)).setCell (p := ⟨gs, k * 3 + 1, none⟩) (fun _ => .inr rfl) (.int .i32 s.t)).setCell (p := ⟨gs, k * 3, none⟩) (fun _ => .inr rfl) (.int .u64 s.v)).setCell (p := ⟨gs, k * 3 + 2, none⟩) (fun _ => .inr rfl) (.string s.n)).alloc (.cells #[.int .u64 s.v, .int .u8 s.t, .slice A s.n.size c] 127)
  simp only [List.setIfInBounds_toArray, List.set_cons_zero] at a1
  have hsz := HZ.out
  refine ⟨⟨_, rfl⟩, ⟨a1, ⟨_, a2, by simp [hsz], fun j s' hj hs' => ?_⟩, n5⟩, a3⟩
  by_cases hjk : j = k
  · subst hjk
    have := HX.out
    rw [hs'] at this
    injection this with this
    subst this
    refine ⟨?_, ?_, ?_⟩
    · rw [Array.getElem?_setIfInBounds_ne (by omega), Array.getElem?_setIfInBounds_self_of_lt (by simp; omega)]
    · rw [Array.getElem?_setIfInBounds_ne (by omega), Array.getElem?_setIfInBounds_ne (by omega), Array.getElem?_setIfInBounds_self_of_lt (by omega)]
    · rw [Array.getElem?_setIfInBounds_self_of_lt (by simp; omega)]
  · obtain ⟨q0, q1, q2⟩ := HCS.out j s' (by omega) hs'
    refine ⟨?_, ?_, ?_⟩
    · rw [Array.getElem?_setIfInBounds_ne (by omega), Array.getElem?_setIfInBounds_ne (by omega), Array.getElem?_setIfInBounds_ne (by omega), q0]
    · rw [Array.getElem?_setIfInBounds_ne (by omega), Array.getElem?_setIfInBounds_ne (by omega), Array.getElem?_setIfInBounds_ne (by omega), q1]
    · rw [Array.getElem?_setIfInBounds_ne (by omega), Array.getElem?_setIfInBounds_ne (by omega), Array.getElem?_setIfInBounds_ne (by omega), q2]
end Go.Proofs.YtpdjolkbjcdimaaDoor
