/- A list of symbols as it lies in memory; the reference's Usual and the laws' bounds over it: where they say yes, what they have seen. -/
import Derived.Test.YtpdjolkbjcdimaaDoorUsual
namespace Go.Proofs.YtpdjolkbjcdimaaDoor
open Go.RowKit

/-- The symbols xs stand at A. -/
def Ss (w : World) (A : Option Addr) (xs : List Sm) : Prop :=
  xs ≠ [] → ∃ b o, A = some ⟨b, o, none⟩ ∧ b < w.heap.size ∧ ∀ (i : Nat) (s : Sm), xs[i]? = some s →
    w.cell? ⟨b, o + i * 3, none⟩ = some (.int .u64 s.v) ∧ w.cell? ⟨b, o + i * 3 + 1, none⟩ = some (.int .i64 s.t) ∧ w.cell? ⟨b, o + i * 3 + 2, none⟩ = some (.string s.n)
theorem Ss.at_ {w : World} {A : Option Addr} {xs : List Sm} (h : Ss w A xs) {k : Nat} (hk : k < xs.length) :
    ∃ b o, A = some ⟨b, o, none⟩ ∧ b < w.heap.size ∧ ∀ (i : Nat) (s : Sm), xs[i]? = some s →
    w.cell? ⟨b, o + i * 3, none⟩ = some (.int .u64 s.v) ∧ w.cell? ⟨b, o + i * 3 + 1, none⟩ = some (.int .i64 s.t) ∧ w.cell? ⟨b, o + i * 3 + 2, none⟩ = some (.string s.n) :=
  h (by rintro rfl; simp at hk)
theorem Ss.below {w w' : World} {A : Option Addr} {xs : List Sm} (h : Ss w A xs) (hb : Below w.heap.size w w') : Ss w' A xs := fun hne => by
  obtain ⟨b, o, hA, hlt, hc⟩ := h hne
  refine ⟨b, o, hA, Nat.lt_of_lt_of_le hlt hb.size, fun i s hs => ?_⟩
  obtain ⟨h1, h2, h3⟩ := hc i s hs
  exact ⟨(hb.cell (p := ⟨b, _, none⟩) hlt).trans h1, (hb.cell (p := ⟨b, _, none⟩) hlt).trans h2, (hb.cell (p := ⟨b, _, none⟩) hlt).trans h3⟩

def SaidBool (Q : Prop) (w : World) (e : Ending) (w' : World) : Prop := ∃ b : Bool, e = .returned (.bool b) ∧ (b = true → Q) ∧ Below w.heap.size w w'

theorem fits7_any (v : Nat) (t : Int) (n : ByteArray) (w : World) :
    Calls Tryd.prog 30 #[.agg #[.int .u64 v, .int .i64 t, .string n]] w (SaidBool True w) := by
  have hA0 : Below w.heap.size w (w.alloc (.cells #[.int .u64 v, .int .i64 t, .string n] 85)) := (Below.refl _ _).alloc (Nat.le_refl _) _
  have HB := Lib.hid hA0
  clear hA0
  go_enter Tryd.func30, Tryd.ntmps30
  go_wp2_with fail
  all_goals
    go_ret
    exact ⟨_, rfl, fun _ => trivial, HB.out⟩

set_option maxHeartbeats 800000 in
theorem fits6_any (A : Option Addr) (xs : List Sm) (c : Nat) (w : World) (hS : Ss w A xs) :
    Calls Tryd.prog 15 #[.slice A xs.length c] w (SaidBool True w) := by
  by_cases hbig : 2147483647 < xs.length
  · go_enter Tryd.func15, Tryd.ntmps15
    go_wp2_with fail
    go_ret
    exact ⟨_, rfl, fun _ => trivial, Below.refl _ _⟩
  · go_enter Tryd.func15, Tryd.ntmps15
    go_wp2_with fail
    go_loopw [10] (fun i wr => ∃ k : Nat, k ≤ xs.length ∧ i = .int .i64 k ∧ Below w.heap.size w wr) (fun i _ => xs.length - (intOf i).toNat)
    case atStart => exact ⟨0, Nat.zero_le _, rfl, Below.refl _ _⟩
    case round =>
      obtain ⟨k, hk, rfl, hbel⟩ := hrel
      by_cases hlt : k < xs.length
      · obtain ⟨b, o, rfl, hb, hcell⟩ := hS.at_ hlt
        obtain ⟨c0, c1, c2⟩ := hcell k xs[k] (List.getElem?_eq_getElem hlt)
        generalize xs[k] = s at c0 c1 c2
        have d0 := (hbel.cell (p := ⟨b, o + k * 3, none⟩) hb).trans c0
        have d1 := (hbel.cell (p := ⟨b, o + k * 3 + 1, none⟩) hb).trans c1
        have d2 := (hbel.cell (p := ⟨b, o + k * 3 + 2, none⟩) hb).trans c2
        clear hcell c0 c1 c2 hS
        have hk3 : (0 : Int) ≤ (k : Int) := by omega
        go_wp2_with fail
        refine (fits7_any s.v s.t s.n _).mono ?_
        rintro e w1 ⟨bb, rfl, _, hb1⟩
        have hB1 : Below w.heap.size w w1 := (hbel.alloc hbel.size _).trans (hb1.mono (by have := hbel.size; simp; omega))
        clear hb1 d0 d1 d2
        cases bb
        · go_wp2_with fail
          go_ret
          exact ⟨_, rfl, fun _ => trivial, hB1⟩
        · go_wp2_with fail
          go_roundw
          case rel => exact ⟨k + 1, by omega, by go_num, hB1⟩
          case measure => simp [intOf]; omega
      · obtain rfl : k = xs.length := by omega
        clear hS
        go_wp2_with fail
        go_ret
        exact ⟨_, rfl, fun _ => trivial, hbel⟩

/-- What Usual says of a list. -/
structure Usual (p : Nat) (xs : List Sm) : Prop where
  width : p = 4 ∨ p = 8
  few : xs.length ≤ 20
  each : ∀ s ∈ xs, Usu s.v s.t s.n p

set_option maxHeartbeats 800000 in
theorem usuals_any (A : Option Addr) (xs : List Sm) (c : Nat) (p : Int) (w : World) (hp : -9223372036854775808 ≤ p ∧ p ≤ 9223372036854775807) (hS : Ss w A xs) (hn : ∀ s ∈ xs, s.n.size ≤ maxLen) :
    Calls Tryd.prog 16 #[.slice A xs.length c, .int .i64 p] w (SaidBool (∃ q : Nat, p = q ∧ Usual q xs) w) := by
  by_cases hw : p = 4 ∨ p = 8
  · obtain ⟨q, rfl, hq⟩ : ∃ q : Nat, p = q ∧ (q = 4 ∨ q = 8) := by
      rcases hw with rfl | rfl
      · exact ⟨4, rfl, .inl rfl⟩
      · exact ⟨8, rfl, .inr rfl⟩
    by_cases h20 : 20 < xs.length
    · clear hw hn
      rcases hq with rfl | rfl
      all_goals
        go_enter Tryd.func16, Tryd.ntmps16
        go_wp2_with fail
        go_ret
        exact ⟨false, rfl, by simp, Below.refl _ _⟩
    · clear hw
      obtain ⟨P, hP⟩ : ∃ P : Sm → Prop, P = fun s => Usu s.v s.t s.n q := ⟨_, rfl⟩
      have HP1 := Lib.hid (show ∀ s, Usu s.v s.t s.n q → P s by rw [hP]; exact fun _ h => h)
      have HP2 := Lib.hid (show ∀ s, P s → Usu s.v s.t s.n q by rw [hP]; exact fun _ h => h)
      clear hP
      have h20' : decide ((20 : Int) < (xs.length : Int)) = false := by rw [decide_eq_false_iff_not]; omega
      rcases hq with rfl | rfl
      all_goals
        go_enter Tryd.func16, Tryd.ntmps16
        go_wp2_with fail
        go_loopw [5] (fun i wr => ∃ k : Nat, k ≤ xs.length ∧ i = .int .i64 k ∧ (∀ j s, j < k → xs[j]? = some s → P s) ∧ Below w.heap.size w wr) (fun i _ => xs.length - (intOf i).toNat)
        case atStart => exact ⟨0, Nat.zero_le _, rfl, fun j s hj => by omega, Below.refl _ _⟩
        case round =>
          obtain ⟨k, hk, rfl, hus, hbel⟩ := hrel
          by_cases hlt : k < xs.length
          · obtain ⟨b, o, rfl, hb, hcell⟩ := hS.at_ hlt
            have hxk : xs[k]? = some xs[k] := List.getElem?_eq_getElem hlt
            obtain ⟨c0, c1, c2⟩ := hcell k xs[k] hxk
            have hn1 := hn xs[k] (List.getElem_mem _)
            generalize xs[k] = s at c0 c1 c2 hn1 hxk
            have d0 := (hbel.cell (p := ⟨b, o + k * 3, none⟩) hb).trans c0
            have d1 := (hbel.cell (p := ⟨b, o + k * 3 + 1, none⟩) hb).trans c1
            have d2 := (hbel.cell (p := ⟨b, o + k * 3 + 2, none⟩) hb).trans c2
            have HN := Lib.hid hn1
            have HX := Lib.hid hxk
            have HU := Lib.hid hus
            clear hcell c0 c1 c2 hS hn hn1 hxk hus
            have hk3 : (0 : Int) ≤ (k : Int) := by omega
            go_wp2_with fail
            refine (usual_any s.v s.t s.n _ _ HN.out).mono ?_
            rintro e w1 ⟨bb, rfl, hbb, hb1⟩
            have hB1 : Below w.heap.size w w1 := hbel.trans (hb1.mono hbel.size)
            clear hb1 d0 d1 d2
            cases bb
            · clear hbb
              go_wp2_with fail
              go_ret
              exact ⟨false, rfl, by simp, hB1⟩
            · have HBB := Lib.hid (hbb rfl)
              clear hbb
              go_wp2_with fail
              go_roundw
              have hfin : ∀ j s', j < k + 1 → xs[j]? = some s' → P s' := fun j s' hj hs' => by
                rcases Nat.lt_or_ge j k with h | h
                · exact HU.out j s' h hs'
                · obtain rfl : j = k := by omega
                  have := HX.out
                  rw [hs'] at this
                  injection this with this
                  subst this
                  exact HP1.out _ HBB.out
              case rel => first | exact ⟨k + 1, by omega, by go_num, hfin, hB1⟩ | ((repeat apply Exists.intro); exact ⟨⟨k + 1, by omega, by go_num, hfin, hB1⟩, rfl⟩)
              case measure => simp [intOf]; omega
          · obtain rfl : k = xs.length := by omega
            have HU := Lib.hid hus
            clear hS hn hus
            go_wp2_with fail
            go_ret
            exact ⟨true, rfl, fun _ => ⟨_, rfl, by decide, by omega, fun s hs => by
              obtain ⟨j, hj⟩ := List.getElem?_of_mem hs
              exact HP2.out _ (HU.out j s (List.getElem?_eq_some_iff.1 hj).1 hj)⟩, hbel⟩
  · have h4 : ¬ p = 4 := fun h => hw (.inl h)
    have h8 : ¬ p = 8 := fun h => hw (.inr h)
    clear hw hn hS
    obtain ⟨hp1, hp2⟩ := hp
    go_enter Tryd.func16, Tryd.ntmps16
    go_wp2_with fail
    go_ret
    exact ⟨false, rfl, by simp, Below.refl _ _⟩
end Go.Proofs.YtpdjolkbjcdimaaDoor
