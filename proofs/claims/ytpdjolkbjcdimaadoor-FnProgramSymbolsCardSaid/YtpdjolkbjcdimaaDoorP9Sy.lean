/- impl.P9Symbols over a written program whose symbols are a written table: the symbols. -/
import Derived.Test.YtpdjolkbjcdimaaDoorFSym
import Derived.Test.YtpdjolkbjcdimaaDoorP9
import Derived.Test.YtpdjolkbjcdimaaDoorCopied
import Derived.Defers
import Derived.Recover
namespace Go.Proofs.YtpdjolkbjcdimaaDoor
open Go.RowKit

theorem catch_P9Symbols (p q : Addr) (w : World) :
    CallsD Tryd.prog 32 #[.pointer (some p), .pointer (some q)] .returning w fun e u' w' => e = .returned (.tuple #[]) ∧ u' = .returning ∧ w' = w := by
  refine callsD_of_wpS Tryd.func32 rfl fun c₀ cs hu => ?_
  apply wpS_seq
  apply wpS_region
  simp [wpOpsS, go_sem, recoverD, hu, Tryd.ntmps32, Exit.thenS]
  refine wpS_cond (t := false) (by simp [Act.eval, Array.replicate]) ?_
  simp only [Bool.false_eq_true, if_false]
  refine wpS_of_wp (wp_skip ?_)
  cases c₀
  simp_all [bodyPostS, results, Tryd.results32]

/-- What impl.P9Symbols hands back: the symbols. -/
def Symbs (xs : List Sm) (W : World) (e : Ending) (w' : World) : Prop := ∃ A c, e = .returned (.tuple #[.slice A xs.length c, .bool true]) ∧ Ss w' A xs ∧ Below W.heap.size W w'

set_option maxRecDepth 100000 in
set_option maxHeartbeats 1600000 in
theorem impl_P9Symbols (A : Option Addr) (p : Prg) (xs : List Sm) (n c : Nat) (w : World) (hE : Eofs w) (hn : p.bytes.length = n) (hb : Bs w A p.bytes) (hh : Heads p.bytes p.M p.T.l.length p.D.l.length p.B p.S.l.length p.E p.P.l.length p.Q.l.length p.hdr p.ptr p.load p.E) (hl : n ≤ 1000000)
    (hS : p.S.l = tbl p.ptr xs) (hG : ∀ s ∈ xs, s.Good p.ptr) (h20 : xs.length ≤ 1000) :
    Calls Tryd.prog 18 #[.slice A n c] w (Symbs xs w) := by
  have hmf : ∀ (fn : Fn) (first cap : Array Value) (w : World), (Instr.makeFunc fn first cap).run Tryd.prog w = .ok (.func fn first cap) w := fun _ _ _ _ => rfl
  subst hn
  have hpp : p.ptr = 4 ∨ p.ptr = 8 := by unfold Prg.ptr; split <;> simp
  have HG := Lib.hid (show _ ∧ _ ∧ _ ∧ _ from ⟨hS, hG, h20, hpp⟩)
  have HH := Lib.hid hh
  clear hh hS hG h20 hpp
  have hd := p.data_at 2 p.S rfl
  have hoff : offAt p.hdr p.lens 2 + p.S.l.length ≤ p.bytes.length := by
    have h1 := offAt_succ p.hdr p.lens 2 p.S.l.length rfl
    have h2 := offAt_le p.hdr p.lens (2 + 1)
    have h3 := p.bytes_length
    have h4 : p.lens.sum = p.T.l.length + (p.D.l.length + (p.S.l.length + (p.P.l.length + (p.Q.l.length + 0)))) := rfl
    omega
  have HD := Lib.hid (show _ ∧ _ from ⟨hd, hoff⟩)
  have HE := Lib.hid hE
  clear hd hoff hE
  go_enter_defers Tryd.func18, Tryd.ntmps18
  go_wp2_with fail
  refine (copied_any A _ c _ ((hb.alloc _).alloc _) (by omega)).mono ?_
  rintro e w1 ⟨A', c', rfl, hown, hbel⟩
  go_wp2_with fail
  obtain ⟨hb1, _, hc1, hm1, hlo⟩ := Bs.of_own hown
  have hB : Blk w1 w.heap.size 45 _ := ((Blk.new w 45 _).alloc _).below hbel (by simp; omega)
  have hB' : Blk w1 (w.heap.size + 1) 4 _ := (Blk.at_ (w.alloc (.cells #[.slice none 0 0] 45)) 4 _ (by simp)).below hbel (by simp)
  have hkeep : Below w.heap.size w w1 := (((Below.refl _ _).alloc (Nat.le_refl _) _).alloc (by simp) _).trans (hbel.mono (by simp; omega))
  have hz1 : w.heap.size + 1 < w1.heap.size := hB'.lt
  refine (zzNew_any c' A' p.bytes w1 _ _ _ _ _ _ _ _ _ _ _ _ hb1 hc1 HH.out).mono ?_
  rintro e w2 ⟨gf, ga, rfl, hF, hS, hR, hgf, hga, hbel2⟩
  have hC := hB.below hbel2 (by omega)
  have hC' := hB'.below hbel2 (by omega)
  have hk2 : Below w.heap.size w w2 := hkeep.trans (hbel2.mono (by omega))
  have hb2 := hb1.below hbel2
  have hneq : (binOp .neq 54 .nilIface .nilIface).run Tryd.prog w2 = .ok (.bool false) w2 := by go_simp
  have HF := Lib.hid (show _ ∧ _ ∧ _ ∧ _ from ⟨hF, hS, hR, hb2⟩)
  have HC := Lib.hid (show _ ∧ _ ∧ _ ∧ _ from ⟨hC, hC', hk2, hz1⟩)
  have HL := Lib.hid (show _ ∧ _ ∧ _ from ⟨hc1, hl, hbel2.size⟩)
  clear hown hb1 hlo hbel hB hB' hkeep hm1 hF hS hR hb2 hC hC' hk2 hbel2 hc1 hl hz1 hb hgf hga
  go_wp2_with fail
  refine (fileSymbols_any gf ga w1.heap.size w1.heap.size p.hdr c' p.bytes.length p.ptr _ _ _ _ _ _ _ _ _ _ _ _ xs A' p.bytes w2 (HE.out.below HC.out.2.2.1) HF.out.1 HF.out.2.1 HF.out.2.2.1 HF.out.2.2.2 rfl HL.out.1 HL.out.2.1 (HD.out.1.trans HG.out.1) (by rw [← HG.out.1]) HD.out.2 HG.out.2.2.2 HG.out.2.1 HG.out.2.2.1).mono ?_
  rintro e w3 ⟨ct, gs, rfl, hF3, hgs, hbel3⟩
  have hC3 := HC.out.1.below hbel3 (by have := HC.out.2.2.2; have := HL.out.2.2; omega)
  have hC3' := HC.out.2.1.below hbel3 (by have := HC.out.2.2.2; have := HL.out.2.2; omega)
  have hk3 : Below w.heap.size w w3 := HC.out.2.2.1.trans (hbel3.mono (by have := HC.out.2.2.2; have := HL.out.2.2; omega))
  have hneq : (binOp .neq 54 .nilIface .nilIface).run Tryd.prog w3 = .ok (.bool false) w3 := by go_simp
  obtain ⟨cs, hrow, hcsz, hcells⟩ := hF3.row
  have HR := Lib.hid hrow
  have HCC := Lib.hid hcells
  have H3 := Lib.hid (show _ ∧ _ ∧ _ ∧ _ from ⟨hC3, hC3', hk3, hbel3.size⟩)
  clear hF3 hrow hcells hcsz hC3 hC3' hk3 hbel3 HF
  go_wp2_with fail
  refine (p9Syms_any gs xs.length xs.length xs w3 rfl HR.out.lt HG.out.2.2.1 (fun s hs => by have := (HG.out.2.1 s hs).kind; omega) (fun j s hj => ?_)).mono ?_
  · obtain ⟨q0, q1, q2⟩ := HCC.out j s (List.getElem?_eq_some_iff.1 hj).1 hj
    exact ⟨(HR.out.cell _).trans q0, (HR.out.cell _).trans q1, (HR.out.cell _).trans q2⟩
  rintro e w4 ⟨A3, c3, rfl, hown3, hbel4⟩
  obtain ⟨hS3, _⟩ := Ss.of_own hown3
  have hlo3 : ∀ b o, A3 = some ⟨b, o, none⟩ → w3.heap.size ≤ b := fun b o he => own_base hown3 b (by rw [he]; rfl)
  have hz3 : w.heap.size + 1 < w3.heap.size := by have := HC.out.2.2.2; have := HL.out.2.2; have := H3.out.2.2.2; omega
  have hD := H3.out.1.below hbel4 (by omega)
  have hD' := H3.out.2.1.below hbel4 (by omega)
  have hk4 : Below w.heap.size w w4 := H3.out.2.2.1.trans (hbel4.mono (by omega))
  have c0 := hD.cell 0
  have c1 := hD'.cell 0
  have f0 := hD.frozen 0
  have f1 := hD'.frozen 0
  simp only [List.getElem?_toArray, List.getElem?_cons_zero] at c0 c1
  have HS3 := Lib.hid hS3
  have HL3 := Lib.hid hlo3
  clear hown3 hS3 hlo3 hbel4
  generalize hg0 : w.heap.size = g0 at *
  have HG0 := Lib.hid hg0
  clear hg0
  go_wp2_with fail
  have h0 := (hD.set_ 0 (.slice A3 xs.length c3)).far (p := ⟨g0 + 1, 0, none⟩) (by simp) (.bool true)
  have h1 := (hD'.far (p := ⟨g0, 0, none⟩) (by simp) (.slice A3 xs.length c3)).set_ 0 (.bool true)
  have hk9 : Below g0 w _ := (hk4.setCell (p := ⟨g0, 0, none⟩) (Nat.le_refl _) (.slice A3 xs.length c3)).setCell (p := ⟨g0 + 1, 0, none⟩) (by simp) (.bool true)
  have hk8 : Keeps (fun b => b = g0 ∨ b = g0 + 1) w4 _ := ((Keeps.refl (fun b => b = g0 ∨ b = g0 + 1) w4).setCell (p := ⟨g0, 0, none⟩) (fun _ => .inl rfl) (.slice A3 xs.length c3)).setCell (p := ⟨g0 + 1, 0, none⟩) (fun _ => .inr rfl) (.bool true)
  generalize (w4.setCell ⟨g0, 0, none⟩ (.slice A3 xs.length c3)).setCell ⟨g0 + 1, 0, none⟩ (.bool true) = w6 at h0 h1 hk9 hk8 ⊢
  simp only [List.setIfInBounds_toArray, List.set_cons_zero] at h0 h1
  have hu9 : Ss w6 A3 xs := fun hne => by
    obtain ⟨b, o, he, hlt, hc⟩ := HS3.out hne
    have hb2 := HL3.out b o he
    have hnb : ¬ (b = g0 ∨ b = g0 + 1) := by omega
    refine ⟨b, o, he, Nat.lt_of_lt_of_le hlt hk8.size, fun i s hs => ?_⟩
    obtain ⟨q0, q1, q2⟩ := hc i s hs
    exact ⟨(hk8.cell (p := ⟨b, _, none⟩) hlt hnb).trans q0, (hk8.cell (p := ⟨b, _, none⟩) hlt hnb).trans q1, (hk8.cell (p := ⟨b, _, none⟩) hlt hnb).trans q2⟩
  refine leaves_cons (f := 32) (args := #[.pointer (some ⟨g0, 0, none⟩), .pointer (some ⟨g0 + 1, 0, none⟩)]) (by simp) (by simp [go_sem]) ?_
  refine (catch_P9Symbols ⟨g0, 0, none⟩ ⟨g0 + 1, 0, none⟩ _).mono ?_
  rintro e u' w9 ⟨rfl, rfl, rfl⟩
  have d0 := h0.cell 0
  have d1 := h1.cell 0
  simp only [List.getElem?_toArray, List.getElem?_cons_zero] at d0 d1
  refine ⟨.tuple #[.slice A3 xs.length c3, .bool true], ?_, A3, c3, rfl, hu9, by rw [HG0.out]; exact hk9⟩
  simp [results, Tryd.results18, go_sem, d0, d1]
end Go.Proofs.YtpdjolkbjcdimaaDoor
