/- A parameter that is a slice of bytes, opened: its bytes stand at its address. -/
import Derived.Test.YtpdjolkbjcdimaaDoorBase
import Derived.ChangeOld
namespace Go.Proofs.YtpdjolkbjcdimaaDoor
open Go.ChangeShapes Go.WideShapes Go.ChangeAt Go.RowKit

theorem byte_of_wf {n : Int} (h : (Lit.int .u8 n).wf = true) : 0 ≤ n ∧ n ≤ 255 := by simpa [Lit.wf, IntKind.min, IntKind.max, IntKind.signed, IntKind.bits] using h

theorem open_bytes {H : Type} {enc : TypeId × Value → H} {P : Program} {w : World} {base : Nat} {spare : Nat → Bool} {held : Bool} {t e : TypeId} {v : Value} {d : DataW H} {p : List MemPlace}
    (ht : P.underlying t = some (.slice e)) (he : P.underlying e = some (.int .u8)) (hce : P.cellsOf e = 1) {r : Reach} {b0 : Nat} (hv : Value.okWide P w r b0 t v) (h : DataW.Trod enc P w base spare held t v d p) :
    ∃ (A : Option Addr) (l : List UInt8) (c : Nat), v = .slice A l.length c ∧ Bs w A l ∧ l.length ≤ c ∧ c ≤ maxLen := by
  obtain ⟨a0, len0, cap0, rfl⟩ := okWide_slice ht hv
  obtain ⟨fuel, hf⟩ := h
  rcases open_ints ht he hce hf with ⟨hcs, _⟩ | ⟨x, len, cap, zs, hcs, _, hl, hm, hz, _, hcell, hwz⟩
  · simp [Value.cells] at hcs
    obtain ⟨rfl, rfl, rfl⟩ := hcs
    exact ⟨none, [], 0, rfl, Bs.nil _ _, Nat.le_refl _, by simp [maxLen]⟩
  · simp [Value.cells] at hcs
    obtain ⟨rfl, rfl, rfl⟩ := hcs
    have hzl : len0 ≤ zs.length := by
      rw [hz]
      split <;> omega
    have hll : ((zs.take len0).map fun n => UInt8.ofNat n.toNat).length = len0 := by simp; omega
    refine ⟨some x, (zs.take len0).map fun n => UInt8.ofNat n.toNat, cap0, by rw [hll], fun hne => ?_, by rw [hll]; exact hl, hm⟩
    have h0 : 0 < len0 := by
      rcases Nat.eq_zero_or_pos len0 with h0 | h0
      · subst h0; simp at hne
      · exact h0
    obtain ⟨b, off, spot⟩ := x
    have hc0 := hcell 0 (by omega)
    have hspot : spot = none := by simpa [Addr.add] using World.cell?_spot hc0
    subst hspot
    refine ⟨b, off, rfl, World.block_lt_of_cell? w _ (by simpa [Addr.add] using hc0), fun i hi => ?_⟩
    rw [hll] at hi
    have hci := hcell i (by omega)
    have hadd : (⟨b, off, none⟩ : Addr).add i = ⟨b, off + i, none⟩ := by unfold Addr.add; split <;> simp_all
    rw [hadd] at hci
    rw [hci]
    have hget : zs[i]? = some zs[i] := List.getElem?_eq_getElem (by omega)
    have hmem : zs[i] ∈ zs := List.getElem_mem _
    have hb := byte_of_wf (hwz _ hmem)
    simp only [List.getElem?_map, List.getElem?_take, if_pos hi, hget, Option.map_some, Option.getD_some, List.getD_eq_getElem?_getD]
    congr 2
    rw [UInt8.toNat_ofNat']
    omega
end Go.Proofs.YtpdjolkbjcdimaaDoor
