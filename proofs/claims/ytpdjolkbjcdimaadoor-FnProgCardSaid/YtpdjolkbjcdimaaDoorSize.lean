/- The reference's size, Fields and Same: what each computes. -/
import Derived.Test.YtpdjolkbjcdimaaDoorChecked
import Derived.Test.YtpdjolkbjcdimaaDoorFields
import Derived.Test.YtpdjolkbjcdimaaDoorNumber
import Derived.Test.YtpdjolkbjcdimaaDoorMem
import Derived.Deep.QuietTactic
import Derived.BigQuiet
import Derived.WalkSpells
namespace Go.Proofs.YtpdjolkbjcdimaaDoor
open Go.RowKit

set_option maxHeartbeats 400000 in
theorem size_any (A : Option Addr) (fs : List Int) (c : Nat) (w : World) (hb : Is w A fs) (hn : fs.length ≤ 1000) (hf : ∀ f ∈ fs, -8 ≤ f ∧ f ≤ 8) :
    Calls Tryd.prog 23 #[.slice A fs.length c] w fun e w' => e = .returned (.int .i64 (fsize fs : Nat)) ∧ ∃ k, w' = w.drewN k := by
  have hsz : ∀ fs : List Int, (∀ f ∈ fs, -8 ≤ f ∧ f ≤ 8) → fsize fs ≤ 8 * fs.length := by
    intro fs
    induction fs with
    | nil => intro _; simp [fsize]
    | cons f r ih =>
      intro h
      have h1 := h f (by simp)
      have h2 := ih (fun g hg => h g (by simp [hg]))
      simp only [fsize, List.length_cons]
      omega
  go_enter Tryd.func23, Tryd.ntmps23
  go_wp2
  go_loopw [3, 4] (fun out i wr => ∃ k q : Nat, k ≤ fs.length ∧ i = .int .i64 k ∧ out = .int .i64 (fsize (fs.take k) : Nat) ∧ wr = w.drewN q) (fun _ i _ => fs.length - (intOf i).toNat)
  case atStart => exact ⟨0, 0, Nat.zero_le _, rfl, by simp [fsize], rfl⟩
  case round =>
    obtain ⟨k, q, hk, rfl, rfl, rfl⟩ := hrel
    by_cases hlt : k < fs.length
    · obtain ⟨b, o, rfl, _, hcell⟩ := hb.at_ hlt
      have hck := hcell k hlt
      have hs := fsize_take fs k hlt
      have hxk : fs[k]? = some fs[k] := List.getElem?_eq_getElem hlt
      have hbd := hf fs[k] (List.getElem_mem _)
      have hle := hsz (fs.take k) (fun f hf' => hf f (List.mem_of_mem_take hf'))
      have hll : (fs.take k).length ≤ fs.length := by rw [List.length_take]; omega
      generalize fs[k] = x at hxk hbd
      rw [hxk] at hck hs
      simp only [Option.getD_some] at hck hs
      generalize fsize (fs.take k) = sz at *
      have HS := Lib.hid hs
      obtain ⟨hb1, hb2⟩ := hbd
      have hbz : (sz : Int) ≤ 8000 := by omega
      clear hcell hb hxk hs hle hll hf hsz
      have hmax : (if x < -x then -x else x) = (x.natAbs : Int) := by split <;> omega
      generalize x.natAbs = ax at *
      go_wp2_with fail
      go_quiet (fail)
      go_wp2_with fail
      go_roundw
      case rel => exact ⟨k + 1, _, by omega, by go_num, by rw [HS.out]; simp, rfl⟩
      case measure => simp [intOf]; omega
    · obtain rfl : k = fs.length := by omega
      have HF := Lib.hid (show fs.take fs.length = fs from List.take_length)
      clear hb hf hsz
      go_wp2_with fail
      go_ret
      exact ⟨by rw [HF.out]; simp, _, rfl⟩

theorem info_u64 : (Tryd.prog.info? 31).map (fun i => (i.zero, i.size, i.bytes)) = some (some (.int .u64 0), 1, 8) := by kernel_rfl
theorem fnums_len (l : List UInt8) (fs : List Int) (hf : ∀ f ∈ fs, -8 ≤ f ∧ f ≤ 8) : ∀ o, (fnums l o fs).length ≤ 8 * fs.length := by
  induction fs with
  | nil => intro o; simp [fnums]
  | cons f r ih =>
    intro o
    have h1 := hf f (by simp)
    have h2 := ih (fun g hg => hf g (by simp [hg])) (o + f.natAbs)
    have h3 : (piece l o f).length ≤ 8 := by
      unfold piece
      split
      · simp; omega
      · simp
    simp only [fnums, List.length_append, List.length_cons]
    omega
theorem fsize_mem (fs : List Int) (k : Nat) (h : k < fs.length) : fsize (fs.take k) + (fs[k]).natAbs ≤ fsize fs := by
  have h1 := fsize_take fs k h
  have h2 := fsize_take_le fs (k + 1)
  rw [List.getElem?_eq_getElem h] at h1
  simp only [Option.getD_some] at h1
  omega

/-- Too few bytes. -/
theorem fields_short (A F : Option Addr) (l : List UInt8) (fs : List Int) (c cf : Nat) (w : World) (hF : Is w F fs) (hn : fs.length ≤ 1000) (hf : ∀ f ∈ fs, -8 ≤ f ∧ f ≤ 8) (hs : l.length < fsize fs) :
    Calls Tryd.prog 7 #[.slice A l.length c, .slice F fs.length cf] w fun e w' => e = .returned (.tuple #[.slice none 0 0, .bool false]) ∧ ∃ k, w' = w.drewN k := by
  have HC := Lib.hid (size_any F fs cf w hF hn hf)
  clear hF hf
  go_enter Tryd.func7, Tryd.ntmps7
  go_wp2_with fail
  refine HC.out.mono ?_
  rintro e w1 ⟨rfl, q, rfl⟩
  go_wp2_with fail
  go_ret2
  exact ⟨by simp, _, rfl⟩

set_option maxRecDepth 100000 in
set_option maxHeartbeats 1600000 in
theorem fields_ok (A F : Option Addr) (l : List UInt8) (fs : List Int) (c cf : Nat) (w : World) (hb : Bs w A l) (hF : Is w F fs) (hn : fs.length ≤ 1000) (hf : ∀ f ∈ fs, -8 ≤ f ∧ f ≤ 8) (h0 : ∀ f ∈ fs, f ≠ 0) (hs : fsize fs ≤ l.length)
    (hc : l.length ≤ c) (hm : c ≤ maxLen) :
    Calls Tryd.prog 7 #[.slice A l.length c, .slice F fs.length cf] w fun e w' => ∃ A' n c', e = .returned (.tuple #[.slice A' n c', .bool true]) ∧
      w'.ownsRow w.heap.size 31 1 (.slice A' n c') n (uvs (fnums l 0 fs)) ∧ Below w.heap.size w w' := by
  have HC := Lib.hid (size_any F fs cf w hF hn hf)
  obtain ⟨i0, hi, hz0, hz1, hz2⟩ := info_parts info_u64
  have hm' := hm
  unfold maxLen at hm'
  have hdec : decide (l.length < fsize fs) = false := by rw [decide_eq_false_iff_not]; omega
  go_enter Tryd.func7, Tryd.ntmps7
  go_wp2_with fail
  refine HC.out.mono ?_
  rintro e w1 ⟨rfl, q, rfl⟩
  go_wp2_with fail
  go_loopw [6, 7, 8] (fun out at_ i wr => ∃ (k n : Nat) (A' : Option Addr) (c' : Nat), k ≤ fs.length ∧ i = .int .i64 k ∧ at_ = .int .i64 (fsize (fs.take k) : Nat) ∧ out = .slice A' n c' ∧
      wr.ownsRow w.heap.size 31 1 (.slice A' n c') n (uvs (fnums l 0 (fs.take k))) ∧ Below w.heap.size w wr) (fun _ _ i _ => fs.length - (intOf i).toNat)
  case atStart =>
    refine ⟨0, 0, _, 0, Nat.zero_le _, rfl, by simp [fsize], rfl, ?_, ((Keeps.refl (fun _ => False) w).drewN q).alloc _ |>.below (Nat.le_refl _) (fun _ h => h.elim)⟩
    exact ⟨by simp [fnums, uvs], .inr ⟨w.heap.size, 0, #[], rfl, Nat.le_refl _, heap_alloc_new (w.drewN q) _, Nat.le_refl _, by simp [maxLen], by simp, by simp [fnums, uvs]⟩⟩
  case round =>
    obtain ⟨k, n, A', c', hk, rfl, rfl, rfl, hown, hbel⟩ := hrel
    by_cases hlt : k < fs.length
    · obtain ⟨bf, of_, rfl, hbf, hcellF⟩ := hF.at_ hlt
      have hck : wr.cell? ⟨bf, of_ + k, none⟩ = some (.int .i64 (fs[k]?.getD 0)) := (hbel.cell (p := ⟨bf, of_ + k, none⟩) hbf).trans (hcellF k hlt)
      have hxk : fs[k]? = some fs[k] := List.getElem?_eq_getElem hlt
      have hbd := hf fs[k] (List.getElem_mem _)
      have hnz := h0 fs[k] (List.getElem_mem _)
      have hmem := fsize_mem fs k hlt
      have hs1 := fsize_take fs k hlt
      have hn1 := fnums_take l fs k hlt
      have hlen := fnums_len l (fs.take k) (fun f hf' => hf f (List.mem_of_mem_take hf')) 0
      have hll : (fs.take k).length ≤ 1000 := by rw [List.length_take]; omega
      have hnl : n = (fnums l 0 (fs.take k)).length := by have := hown.1; rw [uvs_length] at this; omega
      generalize fs[k] = x at hxk hbd hnz hmem
      rw [hxk] at hck hs1 hn1
      simp only [Option.getD_some] at hck hs1 hn1
      generalize hat : fsize (fs.take k) = at_ at *
      have hin : at_ < l.length := by omega
      obtain ⟨b, o, rfl, hbb, hcellB⟩ := hb.at_ hin
      have HS1 := Lib.hid hs1
      have HN1 := Lib.hid hn1
      have HNL := Lib.hid hnl
      have HX := Lib.hid hxk
      have HAT := Lib.hid hat
      have HCW := Lib.hid (hcellF k hlt)
      rw [hxk] at HCW
      simp only [Option.getD_some] at HCW
      have hnb : n ≤ 8000 := by omega
      have hle31 : (l.length : Int) ≤ 9223372036854775807 := by omega
      obtain ⟨hbd1, hbd2⟩ := hbd
      clear hF hb hcellF hxk hs1 hn1 hlen hll hnl hf h0 HC hat
      by_cases hneg : x < 0
      · -- so many bytes by themselves
        have hxa : (x.natAbs : Int) = -x := by omega
        generalize x.natAbs = ax at *
        have hax : at_ + ax ≤ l.length := by omega
        obtain rfl : x = -(ax : Int) := by omega
        have hcell2 : ∀ i, i < l.length → wr.cell? ⟨b, o + i, none⟩ = some (.int .u8 ((l[i]?.getD 0).toNat : Int)) := fun i hi => (hbel.cell (p := ⟨b, o + i, none⟩) hbb).trans (hcellB i hi)
        have hax8 : ax ≤ 8 := by omega
        have HCB := Lib.hid hcellB
        have hp0 : 0 < ax := by omega
        clear hcellB hcell2 hxa hnz hbd1 hbd2 hmem
        obtain ⟨wo, rfl⟩ : ∃ wo : World, wo = wr := ⟨_, rfl⟩
        go_wp2_with fail
        go_loopw [6, 9] (fun out kk wr => ∃ (j n2 : Nat) (A2 : Option Addr) (c2 : Nat), j ≤ ax ∧ kk = .int .i64 j ∧ out = .slice A2 n2 c2 ∧ n2 = n + j ∧
          wr.ownsRow w.heap.size 31 1 (.slice A2 n2 c2) n2 (uvs (fnums l 0 (fs.take k) ++ (List.range j).map (fun k => (l[at_ + k]?.getD 0).toNat))) ∧ Below w.heap.size w wr) (fun _ kk _ => ax - (intOf kk).toNat)
        case atStart => exact ⟨0, n, A', c', Nat.zero_le _, rfl, rfl, rfl, by simpa using hown, hbel⟩
        case round =>
          obtain ⟨j, n2, A2, c2, hj, rfl, rfl, hn2, hown2, hbel2⟩ := hrel
          have hck2 := (hbel2.cell (p := ⟨bf, of_ + k, none⟩) hbf).trans HCW.out
          have HN2 := Lib.hid hn2
          have hn2' : n2 ≤ 8008 := by omega
          clear hn2
          by_cases hjl : j < ax
          · have hby := (hbel2.cell (p := ⟨b, o + (at_ + j), none⟩) hbb).trans (HCB.out (at_ + j) (by omega))
            have hyk : l[at_ + j]? = some l[at_ + j] := List.getElem?_eq_getElem (by omega)
            generalize l[at_ + j] = y at hyk
            rw [hyk] at hby
            simp only [Option.getD_some] at hby
            have HY := Lib.hid hyk
            have hy := y.toNat_lt
            clear hyk
            go_wp2_with (at_builtin; refine wpList_append_src rfl _ _ 27 rfl w.heap.size 31 i0 (.int .u64 0) 8 Tryd.underlying27 hi hz0 hz1 hz2 rfl (.slice A2 n2 c2) n2 _ rfl (hown2.alloc _) (some ⟨wr.heap.size, 0, none⟩) 1 1 [.int .u64 (y.toNat : Int)] rfl rfl (fun h => by cases h) (one_cell wr _ _) (fun u hu => by simp at hu; subst hu; rfl) (by simp only [maxLen]; omega) (by omega) (Nat.le_trans hbel2.size (by simp)) ?_; intro v' w3 hown3 hg3 _)
            obtain ⟨A3, c3, rfl⟩ := own_form hown3
            have hbel3 : Below w.heap.size w w3 := (hbel2.alloc hbel2.size _).grown hg3 (Nat.le_trans hbel2.size (by simp)) (own_base hown2)
            clear hown2 hbel2 hg3
            have hfin : w3.ownsRow w.heap.size 31 1 (.slice A3 (n2 + 1) c3) (n2 + 1) (uvs (fnums l 0 (fs.take k) ++ (List.range (j + 1)).map (fun k => (l[at_ + k]?.getD 0).toNat))) := by
              rw [List.range_succ, List.map_append, ← List.append_assoc, uvs_append]
              rw [show [j].map (fun k => (l[at_ + k]?.getD 0).toNat) = [y.toNat] by simp [HY.out]]
              exact hown3
            go_wp2_with fail
            go_roundw
            case rel => exact ⟨j + 1, n2 + 1, A3, c3, by omega, by go_num, rfl, by have := HN2.out; omega, hfin, hbel3⟩
            case measure => simp [intOf]; omega
          · obtain rfl : j = ax := by omega
            clear hown hbel
            go_wp2_with fail
            go_roundw
            case rel =>
              have hfin : wr.ownsRow w.heap.size 31 1 (.slice A2 n2 c2) n2 (uvs (fnums l 0 (fs.take (k + 1)))) := by
                rw [HN1.out]
                rw [show piece l at_ (-(j : Int)) = (List.range j).map (fun k => (l[at_ + k]?.getD 0).toNat) by unfold piece; rw [if_pos (by omega)]; simp]
                exact hown2
              exact ⟨k + 1, n2, A2, c2, by omega, by go_num, by rw [HS1.out]; simp, rfl, hfin, hbel2⟩
            case measure => simp [intOf]; omega
      · have hxa : (x.natAbs : Int) = x := by omega
        have hpos : 0 < x := by omega
        generalize x.natAbs = ax at *
        have hax : at_ + ax ≤ l.length := by omega
        subst hxa
        have hB2 : Bs wr (some ⟨b, o + at_, none⟩) ((l.drop at_).take ax) := (Bs.from_ (fun i hi => (hbel.cell (p := ⟨b, o + i, none⟩) hbb).trans (hcellB i hi)) (Nat.lt_of_lt_of_le hbb hbel.size) at_).take ax
        have hcne : ¬ c = at_ := by omega
        have hlt2 : at_ ≤ at_ + ax := by omega
        clear hcellB
        go_wp2_with fail
        refine (number_any _ ((l.drop at_).take ax) _ _ _ (by simp; omega) (by omega) hB2).mono ?_
        rintro e w2 ⟨rfl, rfl⟩
        go_wp2_with (at_builtin; refine wpList_append_src rfl _ _ 27 rfl w.heap.size 31 i0 (.int .u64 0) 8 Tryd.underlying27 hi hz0 hz1 hz2 rfl (.slice A' n c') n _ rfl (hown.alloc _) (some ⟨wr.heap.size, 0, none⟩) 1 1 [.int .u64 (be ((l.drop at_).take ax) : Nat)] rfl rfl (fun h => by cases h) (one_cell wr _ _) (fun u hu => by simp at hu; subst hu; rfl) (by simp only [maxLen]; omega) (by omega) (Nat.le_trans hbel.size (by simp)) ?_; intro v' w3 hown3 hg3 _; have hck3 := (((hbel.alloc hbel.size (.cells #[.int .u64 (be ((l.drop at_).take ax) : Nat)] 31)).grown hg3 (Nat.le_trans hbel.size (by simp)) (own_base hown)).cell (p := ⟨bf, of_ + k, none⟩) hbf).trans HCW.out)
        obtain ⟨A2, c2, rfl⟩ := own_form hown3
        have hbel3 : Below w.heap.size w w3 := (hbel.alloc hbel.size _).grown hg3 (Nat.le_trans hbel.size (by simp)) (own_base hown)
        clear hown hbel hB2 hg3
        go_wp2_with fail
        go_roundw
        case rel =>
          have hfin : w3.ownsRow w.heap.size 31 1 (.slice A2 (n + 1) c2) (n + 1) (uvs (fnums l 0 (fs.take (k + 1)))) := by
            rw [HN1.out, uvs_append]
            rw [show piece l at_ (ax : Int) = [be ((l.drop at_).take ax)] by unfold piece; rw [if_neg (by omega)]; rfl]
            exact hown3
          exact ⟨k + 1, n + 1, A2, c2, by omega, by go_num, by rw [HS1.out]; simp, rfl, hfin, hbel3⟩
        case measure => simp [intOf]; omega
    · obtain rfl : k = fs.length := by omega
      have HF := Lib.hid (show fs.take fs.length = fs from List.take_length)
      clear hF hb hf h0 HC
      go_wp2_with fail
      go_ret2
      exact ⟨A', n, c', by simp, by rw [HF.out] at hown; exact hown, hbel⟩
end Go.Proofs.YtpdjolkbjcdimaaDoor
