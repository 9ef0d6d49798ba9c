/- impl.Symbols over a table that was written: the symbols. -/
import Derived.Test.YtpdjolkbjcdimaaP9
import Derived.Test.YtpdjolkbjcdimaaCopied
import Derived.Defers
import Derived.Recover
namespace Go.Proofs.Ytpdjolkbjcdimaa
open Go.RowKit

theorem catch_Symbols (p q : Addr) (w : World) :
    CallsD Try.prog 18 #[.pointer (some p), .pointer (some q)] .returning w fun e u' w' => e = .returned (.tuple #[]) ∧ u' = .returning ∧ w' = w := by
  refine callsD_of_wpS Try.func18 rfl fun c₀ cs hu => ?_
  apply wpS_seq
  apply wpS_region
  simp [wpOpsS, go_sem, recoverD, hu, Try.ntmps18, Exit.thenS]
  refine wpS_cond (t := false) (by simp [Act.eval, Array.replicate]) ?_
  simp only [Bool.false_eq_true, if_false]
  refine wpS_of_wp (wp_skip ?_)
  cases c₀
  simp_all [bodyPostS, results, Try.results18]

theorem zzSymbols_any (A : Option Addr) (xs : List Sm) (n c p : Nat) (W : World) (hn : (tbl p xs).length = n) (hb : Bs W A (tbl p xs)) (hc : n ≤ c) (hm : c ≤ maxLen)
    (hA : ∀ b o, A = some ⟨b, o, none⟩ → b < W.heap.size) (hp : p = 4 ∨ p = 8) (hG : ∀ s ∈ xs, s.Good p) (h20 : xs.length ≤ 1000) :
    Calls Try.prog 19 #[.slice A n c, .int .i64 p] W (Tabled xs W) := by
  have HT := Lib.hid (newTable_any A xs n c p W hn hb hc hm hA hp hG h20)
  clear hn hb hc hm hA hp hG
  go_enter Try.func19, Try.ntmps19
  go_wp2_with fail
  refine HT.out.mono ?_
  rintro e w1 ⟨ct, gs, rfl, h1, h2, h3⟩
  have H1 := Lib.hid h1
  clear h1
  go_wp2_with fail
  go_ret2
  exact ⟨ct, gs, by simp, H1.out, h2, h3⟩

/-- What impl.Symbols hands back: the symbols. -/
def Symbs (xs : List Sm) (W : World) (e : Ending) (w' : World) : Prop := ∃ A c, e = .returned (.tuple #[.slice A xs.length c, .bool true]) ∧ Ss w' A xs ∧ Below W.heap.size W w'

set_option maxRecDepth 100000 in
set_option maxHeartbeats 1600000 in
theorem impl_Symbols (A : Option Addr) (xs : List Sm) (n c p : Nat) (w : World) (hn : (tbl p xs).length = n) (hb : Bs w A (tbl p xs)) (hl : n ≤ 1000000)
    (hp : p = 4 ∨ p = 8) (hG : ∀ s ∈ xs, s.Good p) (h20 : xs.length ≤ 1000) :
    Calls Try.prog 9 #[.slice A n c, .int .i64 p] w (Symbs xs w) := by
  have hmf : ∀ (fn : Fn) (first cap : Array Value) (w : World), (Instr.makeFunc fn first cap).run Try.prog w = .ok (.func fn first cap) w := fun _ _ _ _ => rfl
  subst hn
  have HG := Lib.hid hG
  clear hG
  rcases hp with rfl | rfl
  all_goals
    go_enter_defers Try.func9, Try.ntmps9
    go_wp2_with fail
    refine (copied_any A _ c _ ((hb.alloc _).alloc _) (by omega)).mono ?_
    rintro e w1 ⟨A', c', rfl, hown, hbel⟩
    go_wp2_with fail
    obtain ⟨hb1, _, hc1, hm1, hlo⟩ := Bs.of_own hown
    have hB : Blk w1 w.heap.size 22 _ := ((Blk.new w 22 _).alloc _).below hbel (by simp; omega)
    have hB' : Blk w1 (w.heap.size + 1) 4 _ := (Blk.at_ (w.alloc (.cells #[.slice none 0 0] 22)) 4 _ (by simp)).below hbel (by simp)
    have hkeep : Below w.heap.size w w1 := (((Below.refl _ _).alloc (Nat.le_refl _) _).alloc (by simp) _).trans (hbel.mono (by simp; omega))
    have hz1 : w.heap.size + 1 < w1.heap.size := hB'.lt
    refine (zzSymbols_any A' xs _ c' _ _ rfl hb1 hc1 hm1 (fun b o h => (hlo b o h).2) (by decide) HG.out h20).mono ?_
    rintro e w2 ⟨ct, gs, rfl, hF, hgs, hbel2⟩
    have hC := hB.below hbel2 (by omega)
    have hC' := hB'.below hbel2 (by omega)
    have hk2 : Below w.heap.size w w2 := hkeep.trans (hbel2.mono (by omega))
    have hz2 : w.heap.size + 1 < w2.heap.size := hC'.lt
    have hneq : (binOp .neq 40 .nilIface .nilIface).run Try.prog w2 = .ok (.bool false) w2 := by go_simp
    obtain ⟨cs, hrow, hcsz, hcells⟩ := hF.row
    have HR := Lib.hid hrow
    have HCC := Lib.hid hcells
    clear hown hb1 hb hlo hF hrow hcells hbel hbel2 hcsz hB hB' hkeep hc1 hm1
    have HC := Lib.hid hC
    have HC' := Lib.hid hC'
    clear hC hC'
    go_wp2_with fail
    refine (p9Syms_any gs xs.length xs.length xs w2 rfl HR.out.lt h20 (fun s hs => by have := (HG.out s hs).kind; omega) (fun j s hj => ?_)).mono ?_
    · obtain ⟨q0, q1, q2⟩ := HCC.out j s (List.getElem?_eq_some_iff.1 hj).1 hj
      exact ⟨(HR.out.cell _).trans q0, (HR.out.cell _).trans q1, (HR.out.cell _).trans q2⟩
    rintro e w3 ⟨A3, c3, rfl, hown3, hbel3⟩
    obtain ⟨hS3, _⟩ := Ss.of_own hown3
    have hlo3 : ∀ b o, A3 = some ⟨b, o, none⟩ → w2.heap.size ≤ b := fun b o he => own_base hown3 b (by rw [he]; rfl)
    have hD := HC.out.below hbel3 (by omega)
    have hD' := HC'.out.below hbel3 (by omega)
    have hk3 : Below w.heap.size w w3 := hk2.trans (hbel3.mono (by omega))
    have c0 := hD.cell 0
    have c1 := hD'.cell 0
    have f0 := hD.frozen 0
    have f1 := hD'.frozen 0
    simp only [List.getElem?_toArray, List.getElem?_cons_zero] at c0 c1
    have HS3 := Lib.hid hS3
    have HL3 := Lib.hid hlo3
    clear hown3 hS3 hlo3 hbel3
    generalize hg0 : w.heap.size = g0 at *
    have HG0 := Lib.hid hg0
    clear hg0
    go_wp2_with fail
    have h0 := (hD.set_ 0 (.slice A3 xs.length c3)).far (p := ⟨g0 + 1, 0, none⟩) (by simp) (.bool true)
    have h1 := (hD'.far (p := ⟨g0, 0, none⟩) (by simp) (.slice A3 xs.length c3)).set_ 0 (.bool true)
    have hk9 : Below g0 w _ := (hk3.setCell (p := ⟨g0, 0, none⟩) (Nat.le_refl _) (.slice A3 xs.length c3)).setCell (p := ⟨g0 + 1, 0, none⟩) (by simp) (.bool true)
    have hk8 : Keeps (fun b => b = g0 ∨ b = g0 + 1) w3 _ := ((Keeps.refl (fun b => b = g0 ∨ b = g0 + 1) w3).setCell (p := ⟨g0, 0, none⟩) (fun _ => .inl rfl) (.slice A3 xs.length c3)).setCell (p := ⟨g0 + 1, 0, none⟩) (fun _ => .inr rfl) (.bool true)
    generalize (w3.setCell ⟨g0, 0, none⟩ (.slice A3 xs.length c3)).setCell ⟨g0 + 1, 0, none⟩ (.bool true) = w6 at h0 h1 hk9 hk8 ⊢
    simp only [List.setIfInBounds_toArray, List.set_cons_zero] at h0 h1
    have hu9 : Ss w6 A3 xs := fun hne => by
      obtain ⟨b, o, he, hlt, hc⟩ := HS3.out hne
      have hb2 := HL3.out b o he
      have hnb : ¬ (b = g0 ∨ b = g0 + 1) := by omega
      refine ⟨b, o, he, Nat.lt_of_lt_of_le hlt hk8.size, fun i s hs => ?_⟩
      obtain ⟨q0, q1, q2⟩ := hc i s hs
      exact ⟨(hk8.cell (p := ⟨b, _, none⟩) hlt hnb).trans q0, (hk8.cell (p := ⟨b, _, none⟩) hlt hnb).trans q1, (hk8.cell (p := ⟨b, _, none⟩) hlt hnb).trans q2⟩
    refine leaves_cons (f := 18) (args := #[.pointer (some ⟨g0, 0, none⟩), .pointer (some ⟨g0 + 1, 0, none⟩)]) (by simp) (by simp [go_sem]) ?_
    refine (catch_Symbols ⟨g0, 0, none⟩ ⟨g0 + 1, 0, none⟩ _).mono ?_
    rintro e u' w9 ⟨rfl, rfl, rfl⟩
    have d0 := h0.cell 0
    have d1 := h1.cell 0
    simp only [List.getElem?_toArray, List.getElem?_cons_zero] at d0 d1
    refine ⟨.tuple #[.slice A3 xs.length c3, .bool true], ?_, A3, c3, rfl, hu9, by rw [HG0.out]; exact hk9⟩
    simp [results, Try.results9, go_sem, d0, d1]
end Go.Proofs.Ytpdjolkbjcdimaa
