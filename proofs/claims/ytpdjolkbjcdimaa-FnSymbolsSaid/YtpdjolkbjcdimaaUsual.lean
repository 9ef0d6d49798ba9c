/- The reference's Ends, usual and Usual, and the laws' bounds on sizes: where they say yes, what they have seen. -/
import Derived.Test.YtpdjolkbjcdimaaText
import Derived.Test.YtpdjolkbjcdimaaTable
import Derived.Laws.IdiomStrings
namespace Go.Proofs.Ytpdjolkbjcdimaa
open Go.RowKit

/-- '[]byte(s)': the bytes, in new memory. -/
theorem conv_bytes {P : Program} (w : World) (g : Nat) (hg : w.heap.size = g) (src dst e : TypeId) (s : ByteArray) (hs : P.underlying src = some .string) (hd : P.underlying dst = some (.slice e)) (he : P.underlying e = some (.int .u8)) (hm : s.size ≤ maxLen) :
    ∃ c w', (convert src dst (.string s)).run P w = .ok (.slice (some ⟨g, 0, none⟩) s.size c) w' ∧ Bs w' (some ⟨g, 0, none⟩) s.data.toList ∧ Below w.heap.size w w' ∧ s.size ≤ c ∧ c ≤ maxLen := by
  subst hg
  refine ⟨_, _, run_bytes_of_string w src dst e s hs hd he, ?_, ((Keeps.refl (fun _ => False) w).drew.alloc _).below (Nat.le_refl _) (fun _ h => h.elim), grownCap_ge _ _ _ _, grownCap_le_maxLen _ _ _ _ hm⟩
  intro _
  refine ⟨w.heap.size, 0, rfl, by simp, fun i hi => ?_⟩
  have hi' : i < s.data.size := by simpa using hi
  rw [cell_of_row _ w.heap.size (0 + i) _ _ _ (heap_alloc_new w.drew _), Nat.zero_add, bytesRow_at s _ i hi']
  simp [List.getElem?_eq_getElem (show i < s.data.toList.length from hi)]

theorem ends_any (A : Option Addr) (l : List UInt8) (n c : Nat) (w : World) (hn : l.length = n) (hb : Bs w A l) (hc : l.length ≤ c) (hm : c ≤ maxLen) :
    Calls Try.prog 21 #[.slice A n c] w fun e w' => e = .returned (.bool (decide ((upto l).length < l.length))) ∧ w = w' := by
  subst hn
  have HU := Lib.hid (upto_any A l c w hb hc hm)
  clear hb
  go_enter Try.func21, Try.ntmps21
  go_wp2_with fail
  refine HU.out.mono ?_
  rintro e w' ⟨rfl, rfl⟩
  go_wp2_with fail
  go_ret
  exact ⟨by simp, rfl⟩

theorem upto_full : ∀ (l : List UInt8), (upto l).length = l.length → ∀ j, j < l.length → l[j]?.getD 0 ≠ 0
  | [], _, j, hj => by simp at hj
  | x :: r, h, j, hj => by
    by_cases hx : x = 0
    · subst hx; simp [upto] at h
    · have hu : upto (x :: r) = x :: upto r := by simp [upto, hx]
      rw [hu] at h
      cases j with
      | zero => simpa using hx
      | succ j => simpa using upto_full r (by simpa using h) j (by simpa using hj)
theorem upto_lt_not (l : List UInt8) (h : ¬ (upto l).length < l.length) : ∀ j, j < l.length → l[j]?.getD 0 ≠ 0 :=
  upto_full l (by have := upto_le l; omega)

/-- A symbol as a value. -/
def Sm.val (s : Sm) : Value := .agg #[.int .u64 s.v, .int .i64 s.t, .string s.n]
/-- What usual says of a symbol. -/
def Usu (v : Nat) (t : Int) (n : ByteArray) (p : Nat) : Prop :=
  (t = 84 ∨ t = 116 ∨ t = 68 ∨ t = 100 ∨ t = 66 ∨ t = 98) ∧ n.size ≤ 40 ∧ (p = 4 → v < 4294967296) ∧ ∀ j, j < n.size → n.data.toList[j]?.getD 0 ≠ 0

def SaidUsu (v : Nat) (t : Int) (n : ByteArray) (p : Nat) (w : World) (e : Ending) (w' : World) : Prop := ∃ b : Bool, e = .returned (.bool b) ∧ (b = true → Usu v t n p) ∧ Below w.heap.size w w'

set_option maxRecDepth 100000 in
set_option maxHeartbeats 1600000 in
theorem usual_any (v : Nat) (t : Int) (n : ByteArray) (p : Nat) (w : World) (hn : n.size ≤ maxLen) :
    Calls Try.prog 12 #[.agg #[.int .u64 v, .int .i64 t, .string n], .int .i64 p] w (SaidUsu v t n p w) := by
  obtain ⟨c, w1, hconv, hb1, hbel1, hc1, hm1⟩ := conv_bytes (P := Try.prog) (w.alloc (.cells #[.int .u64 v, .int .i64 t, .string n] 33)) (w.heap.size + 1) (by simp) 9 26 5 n Try.underlying9 Try.underlying26 Try.underlying5 hn
  have hB : Below w.heap.size w w1 := ((Below.refl _ _).alloc (Nat.le_refl _) _).trans (hbel1.mono (by simp))
  have hA0 : Below w.heap.size w (w.alloc (.cells #[.int .u64 v, .int .i64 t, .string n] 33)) := (Below.refl _ _).alloc (Nat.le_refl _) _
  have HE := Lib.hid (ends_any _ n.data.toList n.size c w1 (by simp) hb1 (by simpa using hc1) hm1)
  unfold maxLen at hn
  have hsz : n.data.toList.length = n.size := by simp
  by_cases hk : t = 84 ∨ t = 116 ∨ t = 68 ∨ t = 100 ∨ t = 66 ∨ t = 98
  · by_cases hs : 40 < n.size
    · have HB := Lib.hid hA0
      clear hconv hb1 hbel1 hA0 hB hsz
      rcases hk with rfl | rfl | rfl | rfl | rfl | rfl
      all_goals
        go_enter Try.func12, Try.ntmps12
        go_wp2_with fail
        go_ret
        exact ⟨false, rfl, by simp, HB.out⟩
    · by_cases hp : p = 4 ∧ 4294967296 ≤ v
      · obtain ⟨rfl, hv⟩ := hp
        have HB := Lib.hid hA0
        clear hconv hb1 hbel1 hA0 hB hsz
        rcases hk with rfl | rfl | rfl | rfl | rfl | rfl
        all_goals
          go_enter Try.func12, Try.ntmps12
          go_wp2_with fail
          go_ret
          exact ⟨false, rfl, by simp, HB.out⟩
      · have HB := Lib.hid hB
        have HN := Lib.hid (upto_lt_not n.data.toList)
        have HP := Lib.hid hp
        have HS := Lib.hid hs
        have HZ := Lib.hid hsz
        have HK := Lib.hid hk
        have hs' : ¬ 40 < n.size := hs
        have hfin : Hid (∀ b : Bool, b = !(decide ((upto n.data.toList).length < n.data.toList.length)) → (b = true → Usu v t n p)) := by
          refine Lib.hid ?_
          intro b hb hbt
          subst hb
          have h1 : ¬ (upto n.data.toList).length < n.data.toList.length := by simpa using hbt
          exact ⟨HK.out, by omega, fun h => by omega, fun j hj => HN.out h1 j (by omega)⟩
        clear hb1 hbel1 hA0 hB hsz hp hs hn
        have HQ := Lib.hid hconv
        rcases hk with rfl | rfl | rfl | rfl | rfl | rfl
        all_goals
          by_cases h4 : p = 4
          · subst h4
            have hv : v < 4294967296 := by have := HP.out; omega
            go_enter Try.func12, Try.ntmps12
            go_wp2_with fail
            refine HE.out.mono ?_
            rintro e w' ⟨rfl, rfl⟩
            go_wp2_with fail
            go_ret
            exact ⟨_, rfl, hfin.out _ rfl, HB.out⟩
          · go_enter Try.func12, Try.ntmps12
            go_wp2_with fail
            refine HE.out.mono ?_
            rintro e w' ⟨rfl, rfl⟩
            go_wp2_with fail
            go_ret
            exact ⟨_, rfl, hfin.out _ rfl, HB.out⟩
  · have HB := Lib.hid hA0
    have h1 : ¬ t = 84 := fun h => hk (by simp [h])
    have h2 : ¬ t = 116 := fun h => hk (by simp [h])
    have h3 : ¬ t = 68 := fun h => hk (by simp [h])
    have h4 : ¬ t = 100 := fun h => hk (by simp [h])
    have h5 : ¬ t = 66 := fun h => hk (by simp [h])
    have h6 : ¬ t = 98 := fun h => hk (by simp [h])
    clear hconv hb1 hbel1 hA0 hB hsz hk
    go_enter Try.func12, Try.ntmps12
    go_wp2_with fail
    go_ret
    exact ⟨false, rfl, by simp, HB.out⟩
end Go.Proofs.Ytpdjolkbjcdimaa
