/- plan9obj's parseMagic and impl.Magic. -/
import Derived.Test.YtgnobmakaejjeaaBeP
import Derived.Test.YtgnobmakaejjeaaText
import Derived.Laws.Panics
import Derived.Defers
import Derived.Recover
namespace Go.Proofs.Ytgnobmakaejjeaa
open Go.RowKit

theorem bounds_out {P : Program} {α : Type} (w : World) (k : IntKind) (x y : Int) (code : BoundsCode) :
    ∃ pv m, (boundsPanic k x y code : Sem α).run P w = .halt (.panic (.iface P.rt.boundsError pv)) (w.drewN m) := by
  have h : ∃ s m, (boundsPanic k x y code : Sem α).run P w = .halt (.panic (.iface P.rt.boundsError (.agg #[.int .i64 (IntKind.i64.wrap x), .int .i64 y, .bool s, .int .u8 code.toNat]))) (w.drewN m) := by
    unfold boundsPanic
    split
    · simp [runtimePanic, goPanic, go_sem]
      exact ⟨1, rfl⟩
    · simp [runtimePanic, goPanic, go_sem]
      exact ⟨0, rfl⟩
  obtain ⟨s, m, h⟩ := h
  exact ⟨_, m, h⟩
theorem index_out {P : Program} (w : World) (t : TypeId) (A : Option Addr) (n c : Nat) (i : Int) (h : P.underlying t = some (.slice (P.elem t))) (hnil : A = none → n = 0) (ho : (n : Int) ≤ i) :
    ∃ pv m, (Instr.indexAt t (.slice A n c) (.int .i64 i)).run P w = .halt (.panic (.iface P.rt.boundsError pv)) (w.drewN m) := by
  cases A with
  | some a =>
    rw [run_indexAt_slice (h := h), if_neg (by omega)]
    exact bounds_out w .i64 i n .index
  | none =>
    obtain rfl := hnil rfl
    have e : (Instr.indexAt t (.slice none 0 c) (.int .i64 i)).run P w = (boundsPanic .i64 i 0 .index).run P w := by
      simp [Instr.indexAt, run_underlying h, asIntOf]
    rw [e]
    exact bounds_out w .i64 i 0 .index

theorem u32_short (A : Option Addr) (n c : Nat) (w : World) (hn : n < 4) (hnil : A = none → n = 0) :
    Calls Try.prog 22 #[.int .u8 1, .slice A n c] w fun e w' => (∃ u pv, e = .panicked [{ v := .iface u pv, recovered := false }]) ∧ Below w.heap.size w w' := by
  obtain ⟨pv, m, hout⟩ := index_out (P := Try.prog) w 22 A n c 3 (by kernel_rfl) hnil (by omega)
  go_enter Try.func22, Try.ntmps22
  go_wp2_with fail
  exact ⟨rfl, ⟨_, _, rfl⟩, Keeps.below (S := fun _ => False) ((Keeps.refl _ _).drewN m) (Nat.le_refl _) (fun _ h => h.elim)⟩

def knownB (m : Nat) : Bool := m == 491 || (m == 35479 || m == 1607)
theorem below_drewN (w : World) (m : Nat) : Below w.heap.size w (w.drewN m) := Keeps.below (S := fun _ => False) ((Keeps.refl _ _).drewN m) (Nat.le_refl _) (fun _ h => h.elim)

theorem Bs.stand {w : World} {A : Option Addr} {l : List UInt8} (h : Bs w A l) (k : Nat) (h0 : 0 < k) (hk : k ≤ l.length) : ∃ b o, A = some ⟨b, o, none⟩ ∧ b < w.heap.size ∧ Stand w b o l 0 k := by
  obtain ⟨b, o, hA, hb, hc⟩ := h.at_ (k := 0) (by omega)
  exact ⟨b, o, hA, hb, by omega, fun j hj => by rw [hc j (by omega)]; simp⟩

/-- parseMagic where there are fewer than four bytes: an index runs out of range. -/
theorem parse_short (A : Option Addr) (n c : Nat) (w : World) (hn : n < 4) (hnil : A = none → n = 0) :
    Calls Try.prog 21 #[.slice A n c] w fun e w' => (∃ u pv, e = .panicked [{ v := .iface u pv, recovered := false }]) ∧ Below w.heap.size w w' := by
  go_enter Try.func21, Try.ntmps21
  go_wp2_with fail
  refine (u32_short A n c _ hn hnil).mono ?_
  rintro e w' ⟨⟨u, pv, rfl⟩, hbel⟩
  exact ⟨rfl, ⟨_, _, rfl⟩, hbel⟩

theorem parse_known (A : Option Addr) (l : List UInt8) (n c : Nat) (w : World) (hn : l.length = n) (h4 : 4 ≤ n) (hc : n ≤ c) (hb : Bs w A l) (hk : knownB (bev l 0 4) = true) :
    Calls Try.prog 21 #[.slice A n c] w fun e w' => e = .returned (.tuple #[.int .u32 (bev l 0 4 : Nat), .nilIface]) ∧ Below w.heap.size w w' := by
  subst hn
  obtain ⟨b, o, rfl, _, hs⟩ := hb.stand 4 (by omega) h4
  have hu := fun W hW => u32_l b o l.length c l 0 W h4 hc hW
  have hcases : bev l 0 4 = 491 ∨ bev l 0 4 = 35479 ∨ bev l 0 4 = 1607 := by simpa [knownB] using hk
  clear hb hk
  generalize bev l 0 4 = m at *
  have HU := Lib.hid (hu w hs)
  clear hu hs
  rcases hcases with rfl | rfl | rfl
  all_goals
    go_enter Try.func21, Try.ntmps21
    go_wp2_with fail
    refine HU.out.mono ?_
    rintro e w' ⟨rfl, k, rfl⟩
    go_wp2_with fail
    first | go_ret2 | (rw [Exit.noGoto_ret]; go_ret2)
    exact ⟨by simp, below_drewN _ _⟩

theorem parse_unknown (A : Option Addr) (l : List UInt8) (n c : Nat) (w : World) (hn : l.length = n) (h4 : 4 ≤ n) (hc : n ≤ c) (hb : Bs w A l) (hk : knownB (bev l 0 4) = false) :
    Calls Try.prog 21 #[.slice A n c] w fun e w' => (∃ u x, e = .returned (.tuple #[.int .u32 0, .iface u x])) ∧ Below w.heap.size w w' := by
  subst hn
  obtain ⟨b, o, rfl, _, hs⟩ := hb.stand 4 (by omega) h4
  have hu := fun W hW => u32_l b o l.length c l 0 W h4 hc hW
  have hcases : ¬ bev l 0 4 = 491 ∧ ¬ bev l 0 4 = 35479 ∧ ¬ bev l 0 4 = 1607 := by simpa [knownB] using hk
  clear hb hk
  generalize bev l 0 4 = m at *
  have HU := Lib.hid (hu w hs)
  clear hu hs
  obtain ⟨n1, n2, n3⟩ := hcases
  have m1 : ((m : Int) == 491) = false := by rw [beq_eq_false_iff_ne]; omega
  have m2 : ((m : Int) == 35479) = false := by rw [beq_eq_false_iff_ne]; omega
  have m3 : ((m : Int) == 1607) = false := by rw [beq_eq_false_iff_ne]; omega
  clear n1 n2 n3
  go_enter Try.func21, Try.ntmps21
  go_wp2_with fail
  refine HU.out.mono ?_
  rintro e w' ⟨rfl, k, rfl⟩
  go_wp2_with fail
  go_ret2
  exact ⟨⟨_, _, rfl⟩, Keeps.below (S := fun _ => False) (((Keeps.refl _ _).alloc _).drewN _) (Nat.le_refl _) (fun _ h => h.elim)⟩

theorem zz_short (A : Option Addr) (n c : Nat) (w : World) (hn : n < 4) (hnil : A = none → n = 0) :
    Calls Try.prog 18 #[.slice A n c] w fun e w' => (∃ u pv, e = .panicked [{ v := .iface u pv, recovered := false }]) ∧ Below w.heap.size w w' := by
  go_enter Try.func18, Try.ntmps18
  go_wp2_with fail
  refine (parse_short A n c _ hn hnil).mono ?_
  rintro e w' ⟨⟨u, pv, rfl⟩, hbel⟩
  exact ⟨rfl, ⟨_, _, rfl⟩, hbel⟩

theorem zz_known (A : Option Addr) (l : List UInt8) (n c : Nat) (w : World) (hn : l.length = n) (h4 : 4 ≤ n) (hc : n ≤ c) (hb : Bs w A l) (hk : knownB (bev l 0 4) = true) :
    Calls Try.prog 18 #[.slice A n c] w fun e w' => e = .returned (.tuple #[.int .u32 (bev l 0 4 : Nat), .nilIface]) ∧ Below w.heap.size w w' := by
  go_enter Try.func18, Try.ntmps18
  go_wp2_with fail
  refine (parse_known A l n c _ hn h4 hc hb hk).mono ?_
  rintro e w' ⟨rfl, hbel⟩
  go_wp2_with fail
  go_ret2
  exact ⟨by simp, hbel⟩

theorem zz_unknown (A : Option Addr) (l : List UInt8) (n c : Nat) (w : World) (hn : l.length = n) (h4 : 4 ≤ n) (hc : n ≤ c) (hb : Bs w A l) (hk : knownB (bev l 0 4) = false) :
    Calls Try.prog 18 #[.slice A n c] w fun e w' => (∃ u x, e = .returned (.tuple #[.int .u32 0, .iface u x])) ∧ Below w.heap.size w w' := by
  go_enter Try.func18, Try.ntmps18
  go_wp2_with fail
  refine (parse_unknown A l n c _ hn h4 hc hb hk).mono ?_
  rintro e w' ⟨⟨u, x, rfl⟩, hbel⟩
  go_wp2_with fail
  go_ret2
  exact ⟨⟨u, x, by simp⟩, hbel⟩

theorem magic_idle (p q : Addr) (w : World) :
    CallsD Try.prog 17 #[.pointer (some p), .pointer (some q)] .returning w fun e u' w' => e = .returned (.tuple #[]) ∧ u' = .returning ∧ w' = w := by
  refine callsD_of_wpS Try.func17 rfl fun c₀ cs hu => ?_
  apply wpS_seq
  apply wpS_region
  simp [wpOpsS, go_sem, recoverD, hu, Try.ntmps17, Exit.thenS]
  refine wpS_cond (t := false) (by simp [Act.eval, Array.replicate]) ?_
  simp only [Bool.false_eq_true, if_false]
  refine wpS_of_wp (wp_skip ?_)
  cases c₀
  simp_all [bodyPostS, results, Try.results17]

theorem magic_caught (p q : Addr) (u : TypeId) (pv x y : Value) (older : List PanicEntry) (w : World) (hpq : p.block ≠ q.block) (hp : w.cell? p = some x) (hq : w.cell? q = some y) (fp : w.frozen? p = false) (fq : w.frozen? q = false) :
    CallsD Try.prog 17 #[.pointer (some p), .pointer (some q)] (.panicking ({ v := .iface u pv, recovered := false } :: older)) w fun e u' w' =>
      e = .returned (.tuple #[]) ∧ u' = .panicking ({ v := .iface u pv, recovered := true } :: older) ∧ w' = (w.setCell p (.int .u32 0)).setCell q (.bool false) := by
  have hne : ¬ q = p := fun e => hpq (by rw [e])
  have hq' : (w.setCell p (.int .u32 0)).cell? q = some y := (World.cell?_setCell_other w p q _ (Ne.symm hne)).trans hq
  have fq' : (w.setCell p (.int .u32 0)).frozen? q = false := by simpa using fq
  refine callsD_of_wpS Try.func17 rfl fun c₀ cs hu => ?_
  apply wpS_seq
  apply wpS_region
  simp [wpOpsS, go_sem, recoverD, hu, Try.ntmps17, Exit.thenS]
  refine wpS_cond (t := true) (by simp [Act.eval, Array.replicate]) ?_
  simp only [if_true]
  apply wpS_region
  simp [wpOpsS, go_sem, hp, fp, hq', fq', bodyPostS, results, Try.results17]

/-- What the magic number of bytes is told as. -/
def magicOf (l : List UInt8) : Bool × Nat := if 4 ≤ l.length ∧ knownB (bev l 0 4) = true then (true, bev l 0 4) else (false, 0)

set_option maxHeartbeats 800000 in
theorem impl_magic (A : Option Addr) (l : List UInt8) (c : Nat) (w : World) (hb : Bs w A l) (hl : l.length ≤ 140737488355328) :
    Calls Try.prog 9 #[.slice A l.length c] w fun e w' => e = .returned (.tuple #[.int .u32 ((magicOf l).2 : Nat), .bool (magicOf l).1]) ∧ Below w.heap.size w w' := by
  have hmf : ∀ (fn : Fn) (first cap : Array Value) (w : World), (Instr.makeFunc fn first cap).run Try.prog w = .ok (.func fn first cap) w := fun _ _ _ _ => rfl
  go_enter_defers Try.func9, Try.ntmps9
  go_wp2_with fail
  refine (copied_any A l c _ ((hb.alloc _).alloc _) hl).mono ?_
  rintro e w1 ⟨A', c', rfl, hown, hbel⟩
  go_wp2_with fail
  obtain ⟨hb1, _, hc1, hm1, hlo⟩ := Bs.of_own hown
  have hB : Blk w1 w.heap.size 26 _ := ((Blk.new w 26 _).alloc _).below hbel (by simp; omega)
  have hB' : Blk w1 (w.heap.size + 1) 4 _ := (Blk.at_ (w.alloc (.cells #[.int .u32 0] 26)) 4 _ (by simp)).below hbel (by simp)
  have hkeep : Below w.heap.size w w1 := (((Below.refl _ _).alloc (Nat.le_refl _) _).alloc (by simp) _).trans (hbel.mono (by simp; omega))
  have hz1 : w.heap.size + 1 < w1.heap.size := hB'.lt
  clear hown hb
  by_cases h4 : l.length < 4
  · -- fewer than four bytes: the panic is caught
    refine (zz_short A' l.length c' _ h4 hb1.none_).mono ?_
    rintro e w2 ⟨⟨u, pv, rfl⟩, hbel2⟩
    have hC := hB.below hbel2 (by omega)
    have hC' := hB'.below hbel2 (by omega)
    have hk2 : Below w.heap.size w w2 := hkeep.trans (hbel2.mono (by omega))
    refine leaves_cons (f := 17) (args := #[.pointer (some ⟨w.heap.size, 0, none⟩), .pointer (some ⟨w.heap.size + 1, 0, none⟩)]) (by simp) (by simp [go_sem]) ?_
    refine (magic_caught ⟨w.heap.size, 0, none⟩ ⟨w.heap.size + 1, 0, none⟩ u pv _ _ [] w2 (by simp) (hC.cell 0) (hC'.cell 0) (hC.frozen 0) (hC'.frozen 0)).mono ?_
    rintro e u' w3 ⟨rfl, rfl, rfl⟩
    have hD := (hC.set_ 0 (.int .u32 0)).far (p := ⟨w.heap.size + 1, 0, none⟩) (by simp) (.bool false)
    have hD' := (hC'.far (p := ⟨w.heap.size, 0, none⟩) (by simp) (.int .u32 0)).set_ 0 (.bool false)
    have hc2 := hD.cell 0
    have hc3 := hD'.cell 0
    simp only [List.setIfInBounds_toArray, List.set_cons_zero, List.getElem?_toArray, List.getElem?_cons_zero] at hc2 hc3
    have hmo : magicOf l = (false, 0) := if_neg (by omega)
    refine ⟨.tuple #[.int .u32 0, .bool false], ?_, by rw [hmo]; rfl, (hk2.setCell (Nat.le_refl _) _).setCell (by simp) _⟩
    simp [results, Try.results9, go_sem, hc2, hc3]
  · have h4' : 4 ≤ l.length := by omega
    cases hkn : knownB (bev l 0 4) with
    | true =>
      have hmo : magicOf l = (true, bev l 0 4) := if_pos ⟨h4', hkn⟩
      refine (zz_known A' l l.length c' _ rfl h4' hc1 hb1 hkn).mono ?_
      rintro e w2 ⟨rfl, hbel2⟩
      have hC := hB.below hbel2 (by omega)
      have hC' := hB'.below hbel2 (by omega)
      have hk2 : Below w.heap.size w w2 := hkeep.trans (hbel2.mono (by omega))
      have c0 := hC.cell 0
      have c1 := hC'.cell 0
      have f0 := hC.frozen 0
      have f1 := hC'.frozen 0
      simp only [List.getElem?_toArray, List.getElem?_cons_zero] at c0 c1
      have HM := Lib.hid hmo
      generalize bev l 0 4 = m at *
      clear hmo hkn hb1 hlo h4
      go_wp2
      refine leaves_cons (f := 17) (args := #[.pointer (some ⟨w.heap.size, 0, none⟩), .pointer (some ⟨w.heap.size + 1, 0, none⟩)]) (by simp) (by simp [go_sem]) ?_
      refine (magic_idle ⟨w.heap.size, 0, none⟩ ⟨w.heap.size + 1, 0, none⟩ _).mono ?_
      rintro e u' w3 ⟨rfl, rfl, rfl⟩
      have hD := ((hC.set_ 0 (.int .u32 (m : Nat))).set_ 0 (.int .u32 (m : Nat))).far (p := ⟨w.heap.size + 1, 0, none⟩) (by simp) (.bool true)
      have hD' := ((hC'.far (p := ⟨w.heap.size, 0, none⟩) (by simp) (.int .u32 (m : Nat))).far (p := ⟨w.heap.size, 0, none⟩) (by simp) (.int .u32 (m : Nat))).set_ 0 (.bool true)
      have hc2 := hD.cell 0
      have hc3 := hD'.cell 0
      simp only [List.setIfInBounds_toArray, List.set_cons_zero, List.getElem?_toArray, List.getElem?_cons_zero] at hc2 hc3
      refine ⟨.tuple #[.int .u32 (m : Nat), .bool true], ?_, by rw [HM.out], ((hk2.setCell (Nat.le_refl _) _).setCell (Nat.le_refl _) _).setCell (by simp) _⟩
      simp [results, Try.results9, go_sem, hc2, hc3]
    | false =>
      have hmo : magicOf l = (false, 0) := if_neg (by simp [hkn])
      refine (zz_unknown A' l l.length c' _ rfl h4' hc1 hb1 hkn).mono ?_
      rintro e w2 ⟨⟨u, x, rfl⟩, hbel2⟩
      have hC := hB.below hbel2 (by omega)
      have hC' := hB'.below hbel2 (by omega)
      have hk2 : Below w.heap.size w w2 := hkeep.trans (hbel2.mono (by omega))
      have c0 := hC.cell 0
      have c1 := hC'.cell 0
      have f0 := hC.frozen 0
      have f1 := hC'.frozen 0
      simp only [List.getElem?_toArray, List.getElem?_cons_zero] at c0 c1
      have HM := Lib.hid hmo
      clear hmo hkn hb1 hlo h4
      go_wp2
      refine leaves_cons (f := 17) (args := #[.pointer (some ⟨w.heap.size, 0, none⟩), .pointer (some ⟨w.heap.size + 1, 0, none⟩)]) (by simp) (by simp [go_sem]) ?_
      refine (magic_idle ⟨w.heap.size, 0, none⟩ ⟨w.heap.size + 1, 0, none⟩ _).mono ?_
      rintro e u' w3 ⟨rfl, rfl, rfl⟩
      have hD := ((hC.set_ 0 (.int .u32 0)).set_ 0 (.int .u32 0)).far (p := ⟨w.heap.size + 1, 0, none⟩) (by simp) (.bool false)
      have hD' := ((hC'.far (p := ⟨w.heap.size, 0, none⟩) (by simp) (.int .u32 0)).far (p := ⟨w.heap.size, 0, none⟩) (by simp) (.int .u32 0)).set_ 0 (.bool false)
      have hc2 := hD.cell 0
      have hc3 := hD'.cell 0
      simp only [List.setIfInBounds_toArray, List.set_cons_zero, List.getElem?_toArray, List.getElem?_cons_zero] at hc2 hc3
      refine ⟨.tuple #[.int .u32 0, .bool false], ?_, by rw [HM.out]; rfl, ((hk2.setCell (Nat.le_refl _) _).setCell (Nat.le_refl _) _).setCell (by simp) _⟩
      simp [results, Try.results9, go_sem, hc2, hc3]
end Go.Proofs.Ytgnobmakaejjeaa
