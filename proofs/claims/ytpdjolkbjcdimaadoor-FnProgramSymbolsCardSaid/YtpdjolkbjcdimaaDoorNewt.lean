/- plan9obj's newTable over a table that was written: the symbols, in order. -/
import Derived.Test.YtpdjolkbjcdimaaDoorClos
namespace Go.Proofs.YtpdjolkbjcdimaaDoor
open Go.RowKit

theorem info_sym9 : (Tryd.prog.info? 104).map (fun i => (i.zero, i.size, i.bytes)) = some (some (.agg #[.int .u64 0, .int .i32 0, .string ⟨#[]⟩]), 3, 32) := by kernel_rfl

/-- A result of newTable: a slice of the symbols. -/
def Tabled (xs : List Sm) (W : World) (e : Ending) (w' : World) : Prop := ∃ ct gs, e = .returned (.tuple #[.slice (some ⟨gs, 0, none⟩) xs.length xs.length, .nilIface]) ∧ Fills ct gs xs.length xs xs.length w' ∧ W.heap.size ≤ gs ∧ Below W.heap.size W w'

set_option maxRecDepth 100000 in
set_option maxHeartbeats 1600000 in
theorem newTable_any (A : Option Addr) (xs : List Sm) (n c p : Nat) (W : World) (hn : (tbl p xs).length = n) (hb : Bs W A (tbl p xs)) (hc : n ≤ c) (hm : c ≤ maxLen)
    (hA : ∀ b o, A = some ⟨b, o, none⟩ → b < W.heap.size) (hp : p = 4 ∨ p = 8) (hG : ∀ s ∈ xs, s.Good p) (h20 : xs.length ≤ 1000) :
    Calls Tryd.prog 42 #[.slice A n c, .int .i64 p] W (Tabled xs W) := by
  have hmf : ∀ (fn : Fn) (first cap : Array Value) (w : World), (Instr.makeFunc fn first cap).run Tryd.prog w = .ok (.func fn first cap) w := fun _ _ _ _ => rfl
  obtain ⟨i0, hi0, hz0, hz1, hz2⟩ := info_parts info_sym9
  have hmm := @run_makeMap Tryd.prog
  have HMM := Lib.hid hmm
  have HMF := Lib.hid hmf
  clear hmm hmf
  have hmf := HMF.out
  go_enter Tryd.func42, Tryd.ntmps42
  go_wp2_with fail
  have hB1 : Blk (W.alloc (.cells #[.int .i64 0] 3)) W.heap.size 3 #[.int .i64 0] := Blk.new W _ _
  refine (walksymtab_any 50 #[.pointer (some ⟨W.heap.size, 0, none⟩)] (fun b => b = W.heap.size) (fun k w => Blk w W.heap.size 3 #[.int .i64 k]) A xs n c p _ hn (hb.alloc _) hc hm
    (fun b o he => by have := hA b o he; simp; omega) (fun b he => by simp; omega) hp hG (fun _ _ => by go_simp) (hB1.alloc _) (fun k w w' h hK => h.keeps hK (by simp)) ?_).mono ?_
  · intro k s A' c' w hx hI hl hbs hlt
    have hkl := (List.getElem?_eq_some_iff.1 hx).1
    refine Calls.mono (count_any W.heap.size k s.v s.t A' s.n.size c' w hI (by omega)) ?_
    rintro e w' ⟨h1, h2, h3⟩
    exact ⟨h1, h2, h3.mono (fun i h => .inl h)⟩
  rintro e w2 ⟨rfl, hB2, hK2⟩
  have hbel2 : Below W.heap.size W w2 := ((Below.refl _ _).alloc (Nat.le_refl _) _).trans (hK2.below (by simp) (fun i h => by
    rcases h with h | h
    · omega
    · simp at h; omega))
  have hl2 : W.heap.size < w2.heap.size := hB2.lt
  clear hB1
  have hmm := HMM.out
  have c0 := ((hB2.alloc (.map #[] 0)).alloc (.cells #[.map (some w2.heap.size)] 129)).cell 0
  simp only [List.getElem?_toArray, List.getElem?_cons_zero] at c0
  go_wp2_with (first
    | (refine wpList_make_own _ rfl _ _ 88 rfl W.heap.size 104 i0 _ 3 Tryd.underlying88 hi0 hz0 hz1 .i64 .i64 _ xs.length rfl rfl rfl (by rw [hz2]; omega) (by simp only [maxLen]; omega) (by simp; omega) ?_; intro w3 hown3 hg3))
  clear hmm c0
  have hbel3 : Below W.heap.size W w3 := (((hbel2.alloc (by omega) (.map #[] 0)).alloc (by simp; omega) (.cells #[.map (some w2.heap.size)] 129))).grown hg3 (by simp; omega) (fun k hk => by cases hk)
  have hl3 : w2.heap.size + 1 + 1 ≤ w3.heap.size := by have := hg3.size; simpa using this
  obtain ⟨cs, hrow, hcs⟩ : ∃ cs, Blk w3 (w2.heap.size + 1 + 1) 104 cs ∧ cs.size = xs.length * 3 := by
    rcases hown3.2 with ⟨hv, _⟩ | ⟨g, cap, cur, hv, _, hh, _, _, hcs, _⟩
    · cases hv
    · injection hv with h1 h2 h3
      injection h1 with h1
      injection h1 with h1
      subst h1 h3
      exact ⟨cur, by unfold Blk; simpa using hh, hcs⟩
  clear hown3 hg3
  generalize hgs : w2.heap.size + 1 + 1 = gs at *
  have hgl : gs < w3.heap.size := hrow.lt
  have hWs : W.heap.size < gs := by omega
  clear hgs hB2 hK2
  have hF0 : Fills w3.heap.size gs xs.length xs 0 (w3.alloc (.cells #[.slice (some ⟨gs, 0, none⟩) 0 xs.length] 88)) :=
    ⟨Blk.new w3 _ _, ⟨cs, hrow.alloc _, hcs, fun j s hj => by omega⟩, by omega⟩
  refine (walksymtab_any 51 #[.pointer (some ⟨w3.heap.size, 0, none⟩), .pointer (some ⟨w2.heap.size + 1, 0, none⟩)] (fun b => b = w3.heap.size ∨ b = gs) (fun k w => Fills w3.heap.size gs xs.length xs k w) A xs n c p _ hn
    ((hb.keep hbel3.size (fun b o he _ => hbel3.block b (hA b o he))).alloc _) hc hm
    (fun b o he => by have := hA b o he; have := hbel3.size; refine ⟨by simp; omega, by omega⟩) (fun b he => by simp; omega) hp hG (fun _ _ => by go_simp) ?_ (fun k w w' h hK => h.keeps hK (by simp) (by simp; omega)) ?_).mono ?_
  · exact hF0.keeps ((Keeps.refl (fun _ => False) _).alloc _) (fun h => h) (fun h => h)
  · intro k s A' c' w hx hI hl hbs hlt
    have hmem := List.mem_of_getElem? hx
    refine Calls.mono (fill_any w3.heap.size gs xs.length k (.pointer (some ⟨w2.heap.size + 1, 0, none⟩)) xs s A' c' w hI hx (Nat.le_refl _) (by omega) (hG s hmem).kind hbs (fun b o he => by have := (hl b o he).2; omega)) ?_
    rintro e w' ⟨h1, h2, h3⟩
    exact ⟨h1, h2, h3.mono (fun i h => .inl h)⟩
  rintro e w5 ⟨rfl, hF5, hK5⟩
  have c5 := hF5.cell.cell 0
  simp only [List.getElem?_toArray, List.getElem?_cons_zero] at c5
  have hbel5 : Below W.heap.size W w5 := (hbel3.alloc hbel3.size _).trans (hK5.below (by have := hbel3.size; simp; omega) (fun i h => by
    rcases h with (h | h) | h
    · have := hbel3.size; omega
    · omega
    · have := hbel3.size; simp at h; omega))
  have HF5 := Lib.hid hF5
  clear hF5 hK5 hb hrow hF0 hcs
  go_wp2_with fail
  go_ret2
  exact ⟨w3.heap.size, gs, by simp, HF5.out, by omega, hbel5⟩
end Go.Proofs.YtpdjolkbjcdimaaDoor
