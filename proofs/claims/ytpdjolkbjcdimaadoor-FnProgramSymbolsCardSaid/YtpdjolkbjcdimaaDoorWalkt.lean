/- plan9obj's walksymtab over a table that was written: it calls the function that it is given once a symbol, in order. -/
import Derived.Test.YtpdjolkbjcdimaaDoorTable
import Derived.Test.YtpdjolkbjcdimaaDoorBeX
import Derived.Test.YtpdjolkbjcdimaaDoorMem
import Derived.Test.YtpdjolkbjcdimaaDoorGrow
namespace Go.Proofs.YtpdjolkbjcdimaaDoor
open Go.RowKit

/-- What may have turned: the blocks of C, and those from number B on. -/
def Wide (C : Nat → Prop) (B : Nat) (b : Nat) : Prop := C b ∨ B ≤ b
/-- Where a slice lies: below B, and in no block of C. -/
def Lies (C : Nat → Prop) (B : Nat) (A : Option Addr) : Prop := ∀ b o, A = some ⟨b, o, none⟩ → b < B ∧ ¬ C b

def sliceLen : Value → Nat
  | .slice _ n _ => n
  | _ => 0
theorem sliceLen_mk (A : Option Addr) (n c : Nat) : sliceLen (.slice A n c) = n := rfl

theorem Lies.out_ {C : Nat → Prop} {B B' : Nat} {A : Option Addr} (h : Lies C B A) (hB : B ≤ B') : ∀ b o, A = some ⟨b, o, none⟩ → ¬ Wide C B' b := fun b o he hw => by
  obtain ⟨h1, h2⟩ := h b o he
  rcases hw with hw | hw
  · exact h2 hw
  · omega
/-- Behind a symbol: its name, and the rest, still stand. -/
theorem Bs.part {w : World} {b o : Nat} {l : List UInt8} (h : Bs w (some ⟨b, o, none⟩) l) (d m : Nat) : Bs w (some ⟨b, o + d, none⟩) ((l.drop d).take m) := by
  by_cases hl : l = []
  · subst hl; simp; exact Bs.nil _ _
  · obtain ⟨b', o', he, hb, hc⟩ := h hl
    injection he with he
    injection he with h1 h2
    subst h1 h2
    exact (Bs.from_ hc hb d).take m
theorem Bs.rest {w : World} {b o : Nat} {l : List UInt8} (h : Bs w (some ⟨b, o, none⟩) l) (d : Nat) : Bs w (some ⟨b, o + d, none⟩) (l.drop d) := by
  have := h.part d (l.drop d).length
  rwa [List.take_length] at this

theorem and127 (t : Int) (h : t = 84 ∨ t = 116 ∨ t = 68 ∨ t = 100 ∨ t = 66 ∨ t = 98) : bits .and .u8 ((UInt8.ofNat (t.toNat + 128)).toNat : Int) 127 = t := by
  rcases h with rfl | rfl | rfl | rfl | rfl | rfl <;> rfl

set_option maxRecDepth 100000 in
set_option maxHeartbeats 1600000 in
theorem walksymtab_any (G : FuncId) (caps : Array Value) (C : Nat → Prop) (I : Nat → World → Prop) (A : Option Addr) (xs : List Sm) (n c p : Nat) (W : World) (hn : (tbl p xs).length = n) (hb : Bs W A (tbl p xs)) (hc : n ≤ c) (hm : c ≤ maxLen)
    (hA : Lies C W.heap.size A) (hC8 : ∀ b, C b → b < W.heap.size) (hp : p = 4 ∨ p = 8) (hG : ∀ s ∈ xs, s.Good p)
    (hcall : ∀ args w, (callFunc G args).run Tryd.prog w = .ok (.enter G args) w)
    (hI0 : I 0 (W.alloc (.cells #[.int .u64 0, .int .u8 0, .slice none 0 0] 127)))
    (hI : ∀ k w w', I k w → Keeps (fun b => b = W.heap.size) w w' → I k w')
    (hf : ∀ k s A' c' w, xs[k]? = some s → I k w → Lies C W.heap.size A' → Bs w A' s.n.data.toList → W.heap.size < w.heap.size →
      Calls Tryd.prog G (#[.agg #[.int .u64 s.v, .int .u8 s.t, .slice A' s.n.size c']] ++ caps) w fun e w' => (∃ u, e = .returned u) ∧ I (k + 1) w' ∧ Keeps (Wide C (W.heap.size + 1)) w w') :
    Calls Tryd.prog 49 #[.slice A n c, .int .i64 p, .func (.func G) #[] caps] W fun e w' => e = .returned .nilIface ∧ I xs.length w' ∧ Keeps (Wide C W.heap.size) W w' := by
  subst hn
  generalize hg8 : W.heap.size = g8 at *
  go_enter Tryd.func49, Tryd.ntmps49
  go_wp2_with fail
  go_loopw [9] (fun t9 wr => ∃ (k : Nat) (A9 : Option Addr) (c9 : Nat), k ≤ xs.length ∧ t9 = .slice A9 (tbl p (xs.drop k)).length c9 ∧ (tbl p (xs.drop k)).length ≤ c9 ∧ c9 ≤ maxLen ∧ Bs wr A9 (tbl p (xs.drop k)) ∧ Lies C g8 A9 ∧ I k wr ∧
    (∃ x y z, Blk wr g8 127 #[x, y, z]) ∧ Keeps (Wide C g8) W wr) (fun v _ => sliceLen v)
  case atStart =>
    refine ⟨0, A, c, Nat.zero_le _, rfl, hc, hm, hb.alloc _, hA, hI0, ⟨_, _, _, Blk.at_ W _ _ hg8⟩, (Keeps.refl _ _).alloc _⟩
  case round =>
    obtain ⟨k, A9, c9, hk, rfl, hc9, hm9, hb9, hA9, hIk, ⟨x, y, z, hv⟩, hK⟩ := hrel
    by_cases hlt : k < xs.length
    · have hdrop := tbl_drop p xs k hlt
      have hgood := hG xs[k] (List.getElem_mem _)
      have hxk : xs[k]? = some xs[k] := List.getElem?_eq_getElem hlt
      generalize xs[k] = s at hdrop hgood hxk
      rw [hdrop] at hb9 hc9 ⊢
      generalize hr : tbl p (xs.drop (k + 1)) = r at hb9 hc9 ⊢
      have hlen : (s.bytes p ++ r).length = p + 2 + s.n.size + r.length := by rw [List.length_append, Sm.bytes_length]; omega
      have fnum := front_num p s r hgood
      have fkind := front_kind p s r
      have fname := fun j hj => front_name p s r j hj
      have fend := front_end p s r
      have ftext := front_text p s r
      have frest := front_rest p s r
      generalize s.bytes p ++ r = l at *
      obtain ⟨b, o, rfl, hbl, hcell⟩ := hb9.at_ (k := 0) (by omega)
      obtain ⟨hb8, hbC⟩ := hA9 b o rfl
      have hbg : ¬ b = g8 := by omega
      have hgb : ¬ g8 = b := by omega
      have ck := hcell p (by omega)
      rw [fkind] at ck
      have hand := and127 s.t hgood.kind
      generalize UInt8.ofNat (s.t.toNat + 128) = kb at ck hand
      have v0 := hv.cell 0
      have v1 := hv.cell 1
      have v2 := hv.cell 2
      have z0 := hv.frozen 0
      have z1 := hv.frozen 1
      have z2 := hv.frozen 2
      simp only [List.getElem?_toArray, List.getElem?_cons_zero, List.getElem?_cons_succ] at v0 v1 v2
      generalize hn : l.length = n at *
      have HB9 := Lib.hid hb9
      have HC := Lib.hid hcell
      have HN := Lib.hid hlen
      have HD := Lib.hid hdrop
      have HR := Lib.hid hr
      have HX := Lib.hid hxk
      have HF := Lib.hid fnum
      have HT := Lib.hid ftext
      have HE := Lib.hid fend
      have HRE := Lib.hid frest
      have HG := Lib.hid hgood
      have HL := Lib.hid hn
      have HNM := Lib.hid fname
      have HI := Lib.hid hI
      have HFN := Lib.hid hf
      have H8 := Lib.hid hg8
      have hn1 : p + 2 + s.n.size ≤ n := by omega
      have hm9' : c9 ≤ 9223372036854775807 := by simpa [maxLen] using hm9
      have ho0 : (0 : Int) ≤ (o : Int) := by omega
      clear hb9 hcell hlen hdrop hr hxk fnum ftext fend frest hgood hn fkind fname hI hf hI0 hA hb hG hg8
      have hk1 : k + 1 ≤ xs.length := by omega
      have hreln : ∀ (w3 w4 : World) (q : Option Addr) (cc : Nat) (d : Nat), Keeps (fun j => j = g8) wr w3 → Keeps (Wide C (g8 + 1)) w3 w4 → I (k + 1) w4 → Bs w3 (some ⟨b, o, none⟩) l → d = p + 1 + (s.n.size + 1) → (q = some ⟨b, o + d, none⟩ ∨ n = d ∧ Lies C g8 q) → n - d ≤ cc → cc ≤ maxLen → (∃ x y z, Blk w3 g8 127 #[x, y, z]) →
          ∃ (k' : Nat) (A9 : Option Addr) (c9 : Nat), k' ≤ xs.length ∧ (.slice q (n - d) cc : Value) = .slice A9 (tbl p (xs.drop k')).length c9 ∧ (tbl p (xs.drop k')).length ≤ c9 ∧ c9 ≤ maxLen ∧ Bs w4 A9 (tbl p (xs.drop k')) ∧ Lies C g8 A9 ∧ I k' w4 ∧
            (∃ x y z, Blk w4 g8 127 #[x, y, z]) ∧ Keeps (Wide C g8) W w4 := by
        intro w3 w4 q cc d h3 h4 hI4 hb3 hd hq hcc hccm hx3
        have hrl : r.length = n - d := by have := HN.out; omega
        have hlq : Lies C g8 q := by
          rcases hq with rfl | hq
          · intro b' o' he
            injection he with he
            injection he with e1 e2
            subst e1
            exact ⟨hb8, hbC⟩
          · exact hq.2
        refine ⟨k + 1, q, cc, hk1, by rw [HR.out, hrl], by rw [HR.out, hrl]; exact hcc, hccm, ?_, hlq, hI4, ?_, ?_⟩
        · rw [HR.out]
          rcases hq with rfl | hq
          · have h5 := hb3.rest d
            rw [hd, HRE.out] at h5
            rw [hd]
            exact h5.keeps h4 (fun b' o' he _ => Lies.out_ (B := g8) (fun b2 o2 he2 => hlq b2 o2 (by rw [hd]; exact he2)) (by omega) b' o' he)
          · have : r = [] := List.eq_nil_of_length_eq_zero (by omega)
            rw [this]
            exact Bs.nil _ _
        · obtain ⟨x, y, z, hx⟩ := hx3
          exact ⟨x, y, z, hx.keeps h4 (by rintro (h | h); exact absurd (hC8 _ h) (by omega); omega)⟩
        · exact (hK.trans (h3.mono (fun i h => .inr (by omega)))).trans (h4.mono (fun i h => h.imp id (by omega)))
      have HREL := Lib.hid hreln
      have HM9 := Lib.hid hm9
      clear hreln hK hC8 hm9
      rcases hp with rfl | rfl
      · have hcn : ¬ c9 = 4 := by omega
        have hcn1 : ¬ c9 - 4 = 1 := by omega
        have hsm : s.v < 4294967296 := HG.out.small
        go_wp2_with fail
        refine (u32_l b o 4 c9 l 0 _ (by omega) (by omega) ⟨by rw [HL.out]; omega, fun j hj => by rw [Nat.zero_add]; exact HC.out j (by omega)⟩).mono ?_
        rintro e w1 ⟨rfl, q, rfl⟩
        rw [HF.out]
        have hwv : IntKind.u64.wrap (s.v : Int) = s.v := IntWalk.u64_in _ (by omega)
        go_wp2_with fail
        clear hwv
        have hv2 := ((hv.drewN q).set_ 0 (.int .u64 s.v)).set_ 1 (.int .u8 s.t)
        have hb2 : Bs _ (some ⟨b, o, none⟩) l := (((HB9.out.drewN q).far_ (p := ⟨g8, 0, none⟩) (fun b o h => by have := hA9 b o h; simp; omega) (.int .u64 s.v)).far_ (p := ⟨g8, 1, none⟩) (fun b o h => by have := hA9 b o h; simp; omega) (.int .u8 s.t))
        have hk2 : Keeps (fun j => j = g8) wr _ := (((Keeps.refl (fun j => j = g8) wr).drewN q).setCell (p := ⟨g8, 0, none⟩) (fun _ => rfl) (.int .u64 s.v)).setCell (p := ⟨g8, 1, none⟩) (fun _ => rfl) (.int .u8 s.t)
        generalize ((wr.drewN q).setCell ⟨g8, 0, none⟩ (.int .u64 s.v)).setCell ⟨g8, 1, none⟩ (.int .u8 s.t) = w2 at hv2 hb2 hk2 ⊢
        simp only [List.setIfInBounds_toArray, List.set_cons_succ, List.set_cons_zero] at hv2
        clear v0 v1 v2 z0 z1 z2 hv hand ck
        have y2 := hv2.frozen 2
        have x0 := hv2.cell 0
        have x1 := hv2.cell 1
        have x2 := hv2.cell 2
        simp only [List.getElem?_toArray, List.getElem?_cons_zero, List.getElem?_cons_succ] at x0 x1 x2
        have hs1 : ¬ s.t = 122 := by have := HG.out.kind; omega
        have hs2 : ¬ s.t = 90 := by have := HG.out.kind; omega
        have hsz : s.n.size ≤ 40 := HG.out.short
        have HV2 := Lib.hid hv2
        have HB2 := Lib.hid hb2
        have HK2 := Lib.hid hk2
        clear hv2 hb2 hk2
        go_loop [11, 12] (fun i nn => ∃ j : Nat, j ≤ s.n.size ∧ i = .int .i64 j ∧ nn = .int .i64 0) (fun i _ => s.n.size + 1 - (intOf i).toNat)
        case atStart => exact ⟨0, Nat.zero_le _, rfl, rfl⟩
        case round =>
          obtain ⟨j, hj, rfl, rfl⟩ := hrel
          obtain ⟨_, _, hA2, _, hcell2⟩ := HB2.out.at_ (k := 0) (by rw [HL.out]; omega)
          injection hA2 with hA2
          injection hA2 with hA3 hA4
          subst hA3 hA4
          have cj := hcell2 (4 + 1 + j) (by rw [HL.out]; omega)
          rw [← Nat.add_assoc, ← Nat.add_assoc] at cj
          clear hcell2
          by_cases hjs : j < s.n.size
          · rw [HNM.out j hjs] at cj
            have hne := HG.out.full j hjs
            generalize s.n.data.toList[j]?.getD 0 = xb at cj hne
            have hne' : ((xb.toNat : Int) == 0) = false := by
              rw [beq_eq_false_iff_ne]
              intro h0
              exact hne (UInt8.toNat_inj.1 (by simpa using h0))
            clear hne
            go_wp2_with fail
            go_round
            case rel => exact ⟨j + 1, by omega, by go_num, rfl⟩
            case measure => simp [intOf]; omega
          · obtain rfl : j = s.n.size := by omega
            rw [HE.out] at cj
            simp only [UInt8.toNat_zero] at cj
            by_cases hcc : c9 - 4 - 1 = s.n.size + 1
            · have hclear := trivial
              go_wp2_with fail
              have hv3 := HV2.out.set_ 2 (.slice (some ⟨b, o + 4 + 1, none⟩) s.n.size (s.n.size + 1))
              have hb3 : Bs _ (some ⟨b, o, none⟩) l := HB2.out.far_ (p := ⟨g8, 2, none⟩) (fun b o h => by have := hA9 b o h; simp; omega) (.slice (some ⟨b, o + 4 + 1, none⟩) s.n.size (s.n.size + 1))
              have hk3 : Keeps (fun j => j = g8) wr _ := HK2.out.setCell (p := ⟨g8, 2, none⟩) (fun _ => rfl) (.slice (some ⟨b, o + 4 + 1, none⟩) s.n.size (s.n.size + 1))
              generalize w2.setCell ⟨g8, 2, none⟩ (.slice (some ⟨b, o + 4 + 1, none⟩) s.n.size (s.n.size + 1)) = w3 at hv3 hb3 hk3 ⊢
              simp only [List.setIfInBounds_toArray, List.set_cons_succ, List.set_cons_zero] at hv3
              refine (HFN.out k s (some ⟨b, o + 4 + 1, none⟩) _ w3 HX.out (HI.out k _ _ hIk hk3) ?_ ?_ hv3.lt).mono ?_
              · intro b' o' he
                injection he with he
                injection he with e1 e2
                subst e1
                exact ⟨hb8, hbC⟩
              · have h5 := hb3.part (4 + 1) s.n.size
                rw [HT.out] at h5
                exact h5
              rintro e w4 ⟨⟨u, rfl⟩, hI4, hK4⟩
              have hb3' := Lib.hid hb3
              have hv3' := Lib.hid hv3
              clear hb3 hv3
              go_wp2_with fail
              go_roundw
              case rel =>
                have hr4 := HREL.out w3 w4 (some ⟨b, o + 4 + 1, none⟩) 0 (4 + 1 + (s.n.size + 1)) hk3 hK4 hI4 hb3'.out rfl (.inr ⟨by omega, fun b2 o2 he2 => by injection he2 with he2; injection he2 with e1 e2; subst e1; exact ⟨hb8, hbC⟩⟩) (by omega) (by simp only [maxLen]; omega) ⟨_, _, _, hv3'.out⟩
                rw [show n - (4 + 1 + (s.n.size + 1)) = n - 4 - 1 - (s.n.size + 1) by omega] at hr4
                first | exact hr4 | ((repeat apply Exists.intro); exact ⟨hr4, rfl⟩) | exact ⟨_, _, _, _, hr4⟩
              case measure => simp [sliceLen]; omega
            · have hclear := trivial
              go_wp2_with fail
              have hv3 := HV2.out.set_ 2 (.slice (some ⟨b, o + 4 + 1, none⟩) s.n.size (c9 - 4 - 1))
              have hb3 : Bs _ (some ⟨b, o, none⟩) l := HB2.out.far_ (p := ⟨g8, 2, none⟩) (fun b o h => by have := hA9 b o h; simp; omega) (.slice (some ⟨b, o + 4 + 1, none⟩) s.n.size (c9 - 4 - 1))
              have hk3 : Keeps (fun j => j = g8) wr _ := HK2.out.setCell (p := ⟨g8, 2, none⟩) (fun _ => rfl) (.slice (some ⟨b, o + 4 + 1, none⟩) s.n.size (c9 - 4 - 1))
              generalize w2.setCell ⟨g8, 2, none⟩ (.slice (some ⟨b, o + 4 + 1, none⟩) s.n.size (c9 - 4 - 1)) = w3 at hv3 hb3 hk3 ⊢
              simp only [List.setIfInBounds_toArray, List.set_cons_succ, List.set_cons_zero] at hv3
              refine (HFN.out k s (some ⟨b, o + 4 + 1, none⟩) _ w3 HX.out (HI.out k _ _ hIk hk3) ?_ ?_ hv3.lt).mono ?_
              · intro b' o' he
                injection he with he
                injection he with e1 e2
                subst e1
                exact ⟨hb8, hbC⟩
              · have h5 := hb3.part (4 + 1) s.n.size
                rw [HT.out] at h5
                exact h5
              rintro e w4 ⟨⟨u, rfl⟩, hI4, hK4⟩
              have hb3' := Lib.hid hb3
              have hv3' := Lib.hid hv3
              clear hb3 hv3
              go_wp2_with fail
              go_roundw
              case rel =>
                have hr4 := HREL.out w3 w4 (some ⟨b, o + 4 + 1 + (s.n.size + 1), none⟩) (c9 - 4 - 1 - (s.n.size + 1)) (4 + 1 + (s.n.size + 1)) hk3 hK4 hI4 hb3'.out rfl (.inl (by simp only [Nat.add_assoc])) (by omega) (by simp only [maxLen]; omega) ⟨_, _, _, hv3'.out⟩
                rw [show n - (4 + 1 + (s.n.size + 1)) = n - 4 - 1 - (s.n.size + 1) by omega] at hr4
                first | exact hr4 | ((repeat apply Exists.intro); exact ⟨hr4, rfl⟩) | exact ⟨_, _, _, _, hr4⟩
              case measure => simp [sliceLen]; omega
      · have hcn : ¬ c9 = 8 := by omega
        have hcn1 : ¬ c9 - 8 = 1 := by omega
        have hsm : s.v < 18446744073709551616 := HG.out.small
        go_wp2_with fail
        refine (u64_l b o 8 c9 l 0 _ (by omega) (by omega) ⟨by rw [HL.out]; omega, fun j hj => by rw [Nat.zero_add]; exact HC.out j (by omega)⟩).mono ?_
        rintro e w1 ⟨rfl, q, rfl⟩
        rw [HF.out]
        go_wp2_with fail
        have hv2 := ((hv.drewN q).set_ 0 (.int .u64 s.v)).set_ 1 (.int .u8 s.t)
        have hb2 : Bs _ (some ⟨b, o, none⟩) l := (((HB9.out.drewN q).far_ (p := ⟨g8, 0, none⟩) (fun b o h => by have := hA9 b o h; simp; omega) (.int .u64 s.v)).far_ (p := ⟨g8, 1, none⟩) (fun b o h => by have := hA9 b o h; simp; omega) (.int .u8 s.t))
        have hk2 : Keeps (fun j => j = g8) wr _ := (((Keeps.refl (fun j => j = g8) wr).drewN q).setCell (p := ⟨g8, 0, none⟩) (fun _ => rfl) (.int .u64 s.v)).setCell (p := ⟨g8, 1, none⟩) (fun _ => rfl) (.int .u8 s.t)
        generalize ((wr.drewN q).setCell ⟨g8, 0, none⟩ (.int .u64 s.v)).setCell ⟨g8, 1, none⟩ (.int .u8 s.t) = w2 at hv2 hb2 hk2 ⊢
        simp only [List.setIfInBounds_toArray, List.set_cons_succ, List.set_cons_zero] at hv2
        clear v0 v1 v2 z0 z1 z2 hv hand ck
        have y2 := hv2.frozen 2
        have x0 := hv2.cell 0
        have x1 := hv2.cell 1
        have x2 := hv2.cell 2
        simp only [List.getElem?_toArray, List.getElem?_cons_zero, List.getElem?_cons_succ] at x0 x1 x2
        have hs1 : ¬ s.t = 122 := by have := HG.out.kind; omega
        have hs2 : ¬ s.t = 90 := by have := HG.out.kind; omega
        have hsz : s.n.size ≤ 40 := HG.out.short
        have HV2 := Lib.hid hv2
        have HB2 := Lib.hid hb2
        have HK2 := Lib.hid hk2
        clear hv2 hb2 hk2
        go_loop [11, 12] (fun i nn => ∃ j : Nat, j ≤ s.n.size ∧ i = .int .i64 j ∧ nn = .int .i64 0) (fun i _ => s.n.size + 1 - (intOf i).toNat)
        case atStart => exact ⟨0, Nat.zero_le _, rfl, rfl⟩
        case round =>
          obtain ⟨j, hj, rfl, rfl⟩ := hrel
          obtain ⟨_, _, hA2, _, hcell2⟩ := HB2.out.at_ (k := 0) (by rw [HL.out]; omega)
          injection hA2 with hA2
          injection hA2 with hA3 hA4
          subst hA3 hA4
          have cj := hcell2 (8 + 1 + j) (by rw [HL.out]; omega)
          rw [← Nat.add_assoc, ← Nat.add_assoc] at cj
          clear hcell2
          by_cases hjs : j < s.n.size
          · rw [HNM.out j hjs] at cj
            have hne := HG.out.full j hjs
            generalize s.n.data.toList[j]?.getD 0 = xb at cj hne
            have hne' : ((xb.toNat : Int) == 0) = false := by
              rw [beq_eq_false_iff_ne]
              intro h0
              exact hne (UInt8.toNat_inj.1 (by simpa using h0))
            clear hne
            go_wp2_with fail
            go_round
            case rel => exact ⟨j + 1, by omega, by go_num, rfl⟩
            case measure => simp [intOf]; omega
          · obtain rfl : j = s.n.size := by omega
            rw [HE.out] at cj
            simp only [UInt8.toNat_zero] at cj
            by_cases hcc : c9 - 8 - 1 = s.n.size + 1
            · have hclear := trivial
              go_wp2_with fail
              have hv3 := HV2.out.set_ 2 (.slice (some ⟨b, o + 8 + 1, none⟩) s.n.size (s.n.size + 1))
              have hb3 : Bs _ (some ⟨b, o, none⟩) l := HB2.out.far_ (p := ⟨g8, 2, none⟩) (fun b o h => by have := hA9 b o h; simp; omega) (.slice (some ⟨b, o + 8 + 1, none⟩) s.n.size (s.n.size + 1))
              have hk3 : Keeps (fun j => j = g8) wr _ := HK2.out.setCell (p := ⟨g8, 2, none⟩) (fun _ => rfl) (.slice (some ⟨b, o + 8 + 1, none⟩) s.n.size (s.n.size + 1))
              generalize w2.setCell ⟨g8, 2, none⟩ (.slice (some ⟨b, o + 8 + 1, none⟩) s.n.size (s.n.size + 1)) = w3 at hv3 hb3 hk3 ⊢
              simp only [List.setIfInBounds_toArray, List.set_cons_succ, List.set_cons_zero] at hv3
              refine (HFN.out k s (some ⟨b, o + 8 + 1, none⟩) _ w3 HX.out (HI.out k _ _ hIk hk3) ?_ ?_ hv3.lt).mono ?_
              · intro b' o' he
                injection he with he
                injection he with e1 e2
                subst e1
                exact ⟨hb8, hbC⟩
              · have h5 := hb3.part (8 + 1) s.n.size
                rw [HT.out] at h5
                exact h5
              rintro e w4 ⟨⟨u, rfl⟩, hI4, hK4⟩
              have hb3' := Lib.hid hb3
              have hv3' := Lib.hid hv3
              clear hb3 hv3
              go_wp2_with fail
              go_roundw
              case rel =>
                have hr4 := HREL.out w3 w4 (some ⟨b, o + 8 + 1, none⟩) 0 (8 + 1 + (s.n.size + 1)) hk3 hK4 hI4 hb3'.out rfl (.inr ⟨by omega, fun b2 o2 he2 => by injection he2 with he2; injection he2 with e1 e2; subst e1; exact ⟨hb8, hbC⟩⟩) (by omega) (by simp only [maxLen]; omega) ⟨_, _, _, hv3'.out⟩
                rw [show n - (8 + 1 + (s.n.size + 1)) = n - 8 - 1 - (s.n.size + 1) by omega] at hr4
                first | exact hr4 | ((repeat apply Exists.intro); exact ⟨hr4, rfl⟩) | exact ⟨_, _, _, _, hr4⟩
              case measure => simp [sliceLen]; omega
            · have hclear := trivial
              go_wp2_with fail
              have hv3 := HV2.out.set_ 2 (.slice (some ⟨b, o + 8 + 1, none⟩) s.n.size (c9 - 8 - 1))
              have hb3 : Bs _ (some ⟨b, o, none⟩) l := HB2.out.far_ (p := ⟨g8, 2, none⟩) (fun b o h => by have := hA9 b o h; simp; omega) (.slice (some ⟨b, o + 8 + 1, none⟩) s.n.size (c9 - 8 - 1))
              have hk3 : Keeps (fun j => j = g8) wr _ := HK2.out.setCell (p := ⟨g8, 2, none⟩) (fun _ => rfl) (.slice (some ⟨b, o + 8 + 1, none⟩) s.n.size (c9 - 8 - 1))
              generalize w2.setCell ⟨g8, 2, none⟩ (.slice (some ⟨b, o + 8 + 1, none⟩) s.n.size (c9 - 8 - 1)) = w3 at hv3 hb3 hk3 ⊢
              simp only [List.setIfInBounds_toArray, List.set_cons_succ, List.set_cons_zero] at hv3
              refine (HFN.out k s (some ⟨b, o + 8 + 1, none⟩) _ w3 HX.out (HI.out k _ _ hIk hk3) ?_ ?_ hv3.lt).mono ?_
              · intro b' o' he
                injection he with he
                injection he with e1 e2
                subst e1
                exact ⟨hb8, hbC⟩
              · have h5 := hb3.part (8 + 1) s.n.size
                rw [HT.out] at h5
                exact h5
              rintro e w4 ⟨⟨u, rfl⟩, hI4, hK4⟩
              have hb3' := Lib.hid hb3
              have hv3' := Lib.hid hv3
              clear hb3 hv3
              go_wp2_with fail
              go_roundw
              case rel =>
                have hr4 := HREL.out w3 w4 (some ⟨b, o + 8 + 1 + (s.n.size + 1), none⟩) (c9 - 8 - 1 - (s.n.size + 1)) (8 + 1 + (s.n.size + 1)) hk3 hK4 hI4 hb3'.out rfl (.inl (by simp only [Nat.add_assoc])) (by omega) (by simp only [maxLen]; omega) ⟨_, _, _, hv3'.out⟩
                rw [show n - (8 + 1 + (s.n.size + 1)) = n - 8 - 1 - (s.n.size + 1) by omega] at hr4
                first | exact hr4 | ((repeat apply Exists.intro); exact ⟨hr4, rfl⟩) | exact ⟨_, _, _, _, hr4⟩
              case measure => simp [sliceLen]; omega
    · obtain rfl : k = xs.length := by omega
      have hz : (tbl p (xs.drop xs.length)).length = 0 := by rw [List.drop_length]; rfl
      rw [hz]
      clear hb9 hc9 hz hI0 hA hb hG hI hf
      go_wp2_with fail
      go_ret
      exact ⟨by simp, hIk, hK⟩
end Go.Proofs.YtpdjolkbjcdimaaDoor
