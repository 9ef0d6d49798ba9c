/- xcoff's getString and impl.Text: the text of a table that begins at a place. -/
import Derived.Test.YtgnobmakaejjeaaText
import Derived.Defers
import Derived.Recover
namespace Go.Proofs.Ytgnobmakaejjeaa
open Go.RowKit

theorem cstring_n (A : Option Addr) (l : List UInt8) (n c : Nat) (w : World) (hn : l.length = n) (hb : Bs w A l) (hc : l.length ≤ c) (hm : c ≤ maxLen) :
    Calls Try.prog 19 #[.slice A n c] w fun e w' => e = .returned (.string (txt (upto l))) ∧ w = w' := by
  subst hn; exact cstring_any A l c w hb hc hm
theorem upto_n (A : Option Addr) (l : List UInt8) (n c : Nat) (w : World) (hn : l.length = n) (hb : Bs w A l) (hc : l.length ≤ c) (hm : c ≤ maxLen) :
    Calls Try.prog 7 #[.slice A n c] w fun e w' => e = .returned (.slice A (upto l).length c) ∧ w = w' := by
  subst hn; exact upto_any A l c w hb hc hm

/-- Behind a cut at a place inside. -/
theorem Bs.from_ {w : World} {b o : Nat} {l : List UInt8} (h : ∀ i, i < l.length → w.cell? ⟨b, o + i, none⟩ = some (.int .u8 ((l[i]?.getD 0).toNat : Int))) (hb : b < w.heap.size) (k : Nat) :
    Bs w (some ⟨b, o + k, none⟩) (l.drop k) := fun _ => ⟨b, o + k, rfl, hb, fun i hi => by
  have := h (k + i) (by simp at hi; omega)
  rw [List.getElem?_drop, Nat.add_assoc]
  exact this⟩

theorem getString_yes (A : Option Addr) (l : List UInt8) (c off : Nat) (w : World) (hb : Bs w A l) (hc : l.length ≤ c) (hm : c ≤ maxLen) (h4 : 4 ≤ off) (hlt : off < l.length) (hoff : off < 4294967296) :
    Calls Try.prog 20 #[.slice A l.length c, .int .u32 off] w fun e w' => e = .returned (.tuple #[.string (txt (upto (l.drop off))), .bool true]) ∧ w = w' := by
  obtain ⟨b, o, rfl, hbl, hcell⟩ := hb.at_ hlt
  have hd := Bs.from_ hcell hbl off
  unfold maxLen at hm
  clear hb hcell
  go_enter Try.func20, Try.ntmps20
  go_wp2_with (go_at_call 19; refine (cstring_n _ (l.drop off) _ _ _ (by simp) hd (by simp; omega) (by unfold maxLen; omega)).mono ?_; rintro e w' ⟨rfl, rfl⟩)
  go_ret2
  exact ⟨by simp, rfl⟩

theorem getString_no (A : Option Addr) (l : List UInt8) (c off : Nat) (w : World) (h : off < 4 ∨ l.length ≤ off) (hoff : off < 4294967296) :
    Calls Try.prog 20 #[.slice A l.length c, .int .u32 off] w fun e w' => e = .returned (.tuple #[.string ⟨#[]⟩, .bool false]) ∧ w = w' := by
  by_cases h4 : off < 4
  · go_enter Try.func20, Try.ntmps20
    go_wp2_with fail
    go_ret2
    exact ⟨by simp, rfl⟩
  · have h5 : l.length ≤ off := by omega
    go_enter Try.func20, Try.ntmps20
    go_wp2_with fail
    go_ret2
    exact ⟨by simp, rfl⟩

/-- What a table's place tells. -/
def gets (l : List UInt8) (off : Nat) : Bool × ByteArray := if 4 ≤ off ∧ off < l.length then (true, txt (upto (l.drop off))) else (false, ⟨#[]⟩)

theorem zzstring_any (A : Option Addr) (l : List UInt8) (n c off : Nat) (w : World) (hn : l.length = n) (hb : Bs w A l) (hc : l.length ≤ c) (hm : c ≤ maxLen) (hoff : off < 4294967296) :
    Calls Try.prog 16 #[.slice A n c, .int .u32 off] w fun e w' => e = .returned (.tuple #[.string (gets l off).2, .bool (gets l off).1]) ∧ w = w' := by
  subst hn
  by_cases h : 4 ≤ off ∧ off < l.length
  · have hg : gets l off = (true, txt (upto (l.drop off))) := if_pos h
    have HG := Lib.hid hg
    clear hg
    go_enter Try.func16, Try.ntmps16
    go_wp2_with (go_at_call 20; refine (getString_yes A l c off _ hb hc hm h.1 h.2 hoff).mono ?_; rintro e w' ⟨rfl, rfl⟩)
    go_ret2
    exact ⟨by rw [HG.out]; simp, rfl⟩
  · have hg : gets l off = (false, ⟨#[]⟩) := if_neg h
    have HG := Lib.hid hg
    clear hg
    have h' : off < 4 ∨ l.length ≤ off := by omega
    go_enter Try.func16, Try.ntmps16
    go_wp2_with (go_at_call 20; refine (getString_no A l c off _ h' hoff).mono ?_; rintro e w' ⟨rfl, rfl⟩)
    go_ret2
    exact ⟨by rw [HG.out]; simp, rfl⟩

theorem text_catch (p q : Addr) (w : World) :
    CallsD Try.prog 15 #[.pointer (some p), .pointer (some q)] .returning w fun e u' w' => e = .returned (.tuple #[]) ∧ u' = .returning ∧ w' = w := by
  refine callsD_of_wpS Try.func15 rfl fun c₀ cs hu => ?_
  apply wpS_seq
  apply wpS_region
  simp [wpOpsS, go_sem, recoverD, hu, Try.ntmps15, Exit.thenS]
  refine wpS_cond (t := false) (by simp [Act.eval, Array.replicate]) ?_
  simp only [Bool.false_eq_true, if_false]
  refine wpS_of_wp (wp_skip ?_)
  cases c₀
  simp_all [bodyPostS, results, Try.results15]

set_option maxHeartbeats 400000 in
theorem impl_text (A : Option Addr) (l : List UInt8) (c off : Nat) (w : World) (hb : Bs w A l) (hl : l.length ≤ 140737488355328) (hoff : off < 4294967296) :
    Calls Try.prog 8 #[.slice A l.length c, .int .u32 off] w fun e w' => e = .returned (.tuple #[.string (gets l off).2, .bool (gets l off).1]) ∧ Below w.heap.size w w' := by
  have hmf : ∀ (fn : Fn) (first cap : Array Value) (w : World), (Instr.makeFunc fn first cap).run Try.prog w = .ok (.func fn first cap) w := fun _ _ _ _ => rfl
  go_enter_defers Try.func8, Try.ntmps8
  go_wp2_with fail
  refine (copied_any A l c _ ((hb.alloc _).alloc _) hl).mono ?_
  rintro e w1 ⟨A', c', rfl, hown, hbel⟩
  go_wp2_with fail
  obtain ⟨hb1, _, hc1, hm1, _⟩ := Bs.of_own hown
  refine (zzstring_any A' l _ c' off _ rfl hb1 hc1 hm1 hoff).mono ?_
  rintro e w2 ⟨rfl, rfl⟩
  have hB : Blk w1 w.heap.size 9 _ := ((Blk.new w 9 _).alloc _).below hbel (by simp; omega)
  have hB' : Blk w1 (w.heap.size + 1) 4 _ := (Blk.at_ (w.alloc (.cells #[.string ⟨#[]⟩] 9)) 4 _ (by simp)).below hbel (by simp)
  have hc0 := hB.cell 0
  have hf0 := hB.frozen 0
  have hc1' := hB'.cell 0
  have hf1 := hB'.frozen 0
  simp only [List.getElem?_toArray, List.getElem?_cons_zero] at hc0 hc1'
  have hkeep : Below w.heap.size w w1 := (((Below.refl _ _).alloc (Nat.le_refl _) _).alloc (by simp) _).trans (hbel.mono (by simp; omega))
  clear hown hb1 hb
  go_wp2
  refine leaves_cons (f := 15) (args := #[.pointer (some ⟨w.heap.size, 0, none⟩), .pointer (some ⟨w.heap.size + 1, 0, none⟩)]) (by simp) (by simp [go_sem]) ?_
  refine (text_catch ⟨w.heap.size, 0, none⟩ ⟨w.heap.size + 1, 0, none⟩ _).mono ?_
  rintro e u' w'' ⟨rfl, rfl, rfl⟩
  have hB2 := (hB.set_ 0 (.string (gets l off).2)).far (p := ⟨w.heap.size + 1, 0, none⟩) (by simp) (.bool (gets l off).1)
  have hB3 := (hB'.far (p := ⟨w.heap.size, 0, none⟩) (by simp) (.string (gets l off).2)).set_ 0 (.bool (gets l off).1)
  have hc2 := hB2.cell 0
  have hc3 := hB3.cell 0
  simp only [List.setIfInBounds_toArray, List.set_cons_zero, List.getElem?_toArray, List.getElem?_cons_zero] at hc2 hc3
  refine ⟨.tuple #[.string (gets l off).2, .bool (gets l off).1], ?_, rfl, (hkeep.setCell (Nat.le_refl _) _).setCell (by simp) _⟩
  simp [results, Try.results8, go_sem, hc2, hc3]
end Go.Proofs.Ytgnobmakaejjeaa
