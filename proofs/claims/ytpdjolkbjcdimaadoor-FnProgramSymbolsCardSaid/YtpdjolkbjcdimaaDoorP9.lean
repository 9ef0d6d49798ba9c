/- impl.p9Syms: the table of symbols as plain data; the reference's SameSyms. -/
import Derived.Test.YtpdjolkbjcdimaaDoorNewt
import Derived.Test.YtpdjolkbjcdimaaDoorSyms
import Derived.Deep.AppendLies
namespace Go.Proofs.YtpdjolkbjcdimaaDoor
open Go.RowKit

def syCells (xs : List Sm) : List Value := xs.flatMap fun s => [.int .u64 s.v, .int .i64 s.t, .string s.n]
theorem syCells_length (xs : List Sm) : (syCells xs).length = xs.length * 3 := by
  induction xs with
  | nil => rfl
  | cons x r ih => simp only [syCells, List.flatMap_cons, List.length_append, List.length_cons, List.length_nil] at *; omega
theorem syCells_snoc (xs : List Sm) (s : Sm) : syCells (xs ++ [s]) = syCells xs ++ [.int .u64 s.v, .int .i64 s.t, .string s.n] := by
  simp only [syCells, List.flatMap_append, List.flatMap_cons, List.flatMap_nil, List.append_nil]
theorem syCells_get : ∀ (xs : List Sm) (i : Nat) (s : Sm), xs[i]? = some s → (syCells xs)[i * 3]? = some (.int .u64 s.v) ∧ (syCells xs)[i * 3 + 1]? = some (.int .i64 s.t) ∧ (syCells xs)[i * 3 + 2]? = some (.string s.n)
  | [], _, _, h => by simp at h
  | x :: r, 0, s, h => by
    simp at h; subst h
    exact ⟨rfl, rfl, rfl⟩
  | x :: r, i + 1, s, h => by
    have := syCells_get r i s (by simpa using h)
    have e : syCells (x :: r) = .int .u64 x.v :: .int .i64 x.t :: .string x.n :: syCells r := rfl
    rw [e, show (i + 1) * 3 = i * 3 + 1 + 1 + 1 by omega]
    simp only [List.getElem?_cons_succ, show i * 3 + 1 + 1 + 1 + 1 = (i * 3 + 1) + 1 + 1 + 1 from rfl, show i * 3 + 1 + 1 + 1 + 2 = (i * 3 + 2) + 1 + 1 + 1 from rfl]
    exact this
theorem Ss.of_own {w : World} {base e n : Nat} {A : Option Addr} {c : Nat} {xs : List Sm} (h : w.ownsRow base e 3 (.slice A n c) n (syCells xs)) : Ss w A xs ∧ n = xs.length := by
  have hn : n = xs.length := by have := h.1; rw [syCells_length] at this; omega
  refine ⟨fun hne => ?_, hn⟩
  rcases h.2 with ⟨hv, h0⟩ | ⟨g, cap, cur, hv, hb, hg, hnc, hcm, hcs, htake⟩
  · exact absurd (List.eq_nil_of_length_eq_zero (by omega)) hne
  · injection hv with h1 h2 h3
    subst h1 h3
    refine ⟨g, 0, rfl, (Array.getElem?_eq_some_iff.1 hg).1, fun i s hi => ?_⟩
    have hlt := (List.getElem?_eq_some_iff.1 hi).1
    obtain ⟨q0, q1, q2⟩ := syCells_get xs i s hi
    rw [← htake] at q0 q1 q2
    rw [List.getElem?_take, if_pos (by omega)] at q0 q1 q2
    refine ⟨?_, ?_, ?_⟩
    · rw [cell_of_row w g _ cur e (0, 0) hg, Nat.zero_add]; simpa using q0
    · rw [cell_of_row w g _ cur e (0, 0) hg, Nat.zero_add]; simpa using q1
    · rw [cell_of_row w g _ cur e (0, 0) hg, Nat.zero_add]; simpa using q2

theorem info_p9 : (Tryd.prog.info? 85).map (fun i => (i.zero, i.size, i.bytes)) = some (some (.agg #[.int .u64 0, .int .i64 0, .string ⟨#[]⟩]), 3, 32) := by kernel_rfl

set_option maxRecDepth 100000 in
set_option maxHeartbeats 800000 in
theorem p9Syms_any (gs n c : Nat) (xs : List Sm) (w : World) (hn : xs.length = n) (hgl : gs < w.heap.size) (h20 : xs.length ≤ 1000) (hk : ∀ s ∈ xs, -2147483648 ≤ s.t ∧ s.t ≤ 2147483647)
    (hc : ∀ (j : Nat) (s : Sm), xs[j]? = some s → w.cell? ⟨gs, j * 3, none⟩ = some (.int .u64 s.v) ∧ w.cell? ⟨gs, j * 3 + 1, none⟩ = some (.int .i32 s.t) ∧ w.cell? ⟨gs, j * 3 + 2, none⟩ = some (.string s.n)) :
    Calls Tryd.prog 34 #[.slice (some ⟨gs, 0, none⟩) n c] w fun e w' => ∃ A c', e = .returned (.slice A n c') ∧ w'.ownsRow w.heap.size 85 3 (.slice A n c') n (syCells xs) ∧ Below w.heap.size w w' := by
  subst hn
  obtain ⟨i0, hi, hz0, hz1, hz2⟩ := info_parts info_p9
  go_enter Tryd.func34, Tryd.ntmps34
  go_wp2_with fail
  go_loopw [3, 8] (fun out i wr => ∃ (k : Nat) (A : Option Addr) (c' : Nat), k ≤ xs.length ∧ i = .int .i64 k ∧ out = .slice A k c' ∧ wr.ownsRow w.heap.size 85 3 (.slice A k c') k (syCells (xs.take k)) ∧ Below w.heap.size w wr) (fun _ i _ => xs.length - (intOf i).toNat)
  case atStart => exact ⟨0, none, 0, Nat.zero_le _, rfl, rfl, World.ownsRow_nil _ _ _ _, Below.refl _ _⟩
  case round =>
    obtain ⟨k, A, c', hk2, rfl, rfl, hown, hbel⟩ := hrel
    by_cases hlt : k < xs.length
    · have hxk : xs[k]? = some xs[k] := List.getElem?_eq_getElem hlt
      obtain ⟨c0, c1, c2⟩ := hc k xs[k] hxk
      have hkk := hk xs[k] (List.getElem_mem _)
      have hsnoc : xs.take (k + 1) = xs.take k ++ [xs[k]] := List.take_succ_eq_append_getElem hlt
      generalize xs[k] = s at c0 c1 c2 hxk hsnoc hkk
      have d0 := (hbel.cell (p := ⟨gs, k * 3, none⟩) hgl).trans c0
      have d1 := (hbel.cell (p := ⟨gs, k * 3 + 1, none⟩) hgl).trans c1
      have d2 := (hbel.cell (p := ⟨gs, k * 3 + 2, none⟩) hgl).trans c2
      obtain ⟨hkk1, hkk2⟩ := hkk
      have HSN := Lib.hid hsnoc
      have hk3 : (0 : Int) ≤ (k : Int) := by omega
      have hl0 := hbel.size
      clear hc c0 c1 c2 hxk hsnoc hk
      have hown' := (hown.alloc (.cells #[.int .u64 s.v, .int .i32 s.t, .string s.n] 104)).alloc (.cells #[.int .u64 s.v, .int .i64 s.t, .string s.n] 85)
      go_wp2_with (at_builtin; refine wpList_append_lies _ rfl _ _ _ rfl w.heap.size 85 i0 _ 3 32 Tryd.underlying45 hi hz0 hz1 hz2 rfl (by omega) _ k _ rfl hown' ⟨wr.heap.size + 1, 0, none⟩ 1 1 [.int .u64 s.v, .int .i64 s.t, .string s.n] rfl rfl (World.news_of_block (cs := #[.int .u64 s.v, .int .i64 s.t, .string s.n]) (t := 85) (fr := (0, 0)) (by have := heap_alloc_new (wr.alloc (.cells #[.int .u64 s.v, .int .i32 s.t, .string s.n] 104)) (.cells #[.int .u64 s.v, .int .i64 s.t, .string s.n] 85); simpa using this)) (by simp [Value.oneCell']) (by omega) (by simp only [maxLen]; omega) (by omega) (by simp; omega) _ rfl ?_; intro g cap w3 hown3 hg3 _ _)
      have hown3' : w3.ownsRow w.heap.size 85 3 (.slice (some ⟨g, 0, none⟩) (k + 1) cap) (k + 1) (syCells (xs.take (k + 1))) := by
        rw [HSN.out, syCells_snoc]
        exact hown3
      have hbel3 : Below w.heap.size w w3 := ((hbel.alloc hbel.size (.cells #[.int .u64 s.v, .int .i32 s.t, .string s.n] 104)).alloc (by simp; omega) (.cells #[.int .u64 s.v, .int .i64 s.t, .string s.n] 85)).grown hg3 (by simp; omega) (own_base hown)
      exact ⟨⟨k + 1, some ⟨g, 0, none⟩, cap, by omega, by go_num, rfl, hown3', hbel3⟩, by simp [intOf]; omega⟩
    · obtain rfl : k = xs.length := by omega
      have HF := Lib.hid (show xs.take xs.length = xs from List.take_length)
      clear hc hk
      go_wp2_with fail
      go_ret
      exact ⟨A, c', by simp, by rw [HF.out] at hown; exact hown, hbel⟩

set_option maxHeartbeats 800000 in
theorem sameSyms_any (A B : Option Addr) (xs : List Sm) (n c d : Nat) (w : World) (hn : xs.length = n) (ha : Ss w A xs) (hb : Ss w B xs) (h20 : xs.length ≤ 100000) :
    Calls Tryd.prog 19 #[.slice A n c, .slice B n d] w fun e w' => e = .returned (.bool true) ∧ ∃ k, w' = w.drewN k := by
  subst hn
  go_enter Tryd.func19, Tryd.ntmps19
  go_wp2_with fail
  go_loopw [5] (fun i wr => ∃ k q : Nat, k ≤ xs.length ∧ i = .int .i64 k ∧ wr = w.drewN q) (fun i _ => xs.length - (intOf i).toNat)
  case atStart => exact ⟨0, 0, Nat.zero_le _, rfl, rfl⟩
  case round =>
    obtain ⟨k, q, hk, rfl, rfl⟩ := hrel
    by_cases hlt : k < xs.length
    · obtain ⟨b1, o1, rfl, _, h1⟩ := ha.at_ hlt
      obtain ⟨b2, o2, rfl, _, h2⟩ := hb.at_ hlt
      obtain ⟨c0, c1, c2⟩ := h1 k xs[k] (List.getElem?_eq_getElem hlt)
      obtain ⟨d0, d1, d2⟩ := h2 k xs[k] (List.getElem?_eq_getElem hlt)
      generalize xs[k] = s at c0 c1 c2 d0 d1 d2
      have hk3 : (0 : Int) ≤ (k : Int) := by omega
      clear h1 h2 ha hb
      go_wp2_with fail
      go_quiet (fail)
      go_wp2_with fail
      go_roundw
      case rel => exact ⟨k + 1, _, by omega, by go_num, rfl⟩
      case measure => simp [intOf]; omega
    · obtain rfl : k = xs.length := by omega
      clear ha hb
      go_wp2_with fail
      go_ret
      exact ⟨by simp, _, rfl⟩
end Go.Proofs.YtpdjolkbjcdimaaDoor
