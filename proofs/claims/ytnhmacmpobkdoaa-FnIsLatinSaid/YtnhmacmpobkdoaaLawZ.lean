/- What all laws over drawn bytes share: the bytes opened, and what good tells. -/
import Derived.Test.YtnhmacmpobkdoaaDrawA
import Derived.Test.YtnhmacmpobkdoaaPlainB
namespace Go.Proofs.Ytnhmacmpobkdoaa
open Go.RowKit
set_option linter.unusedVariables false

theorem chain {W W1 w1 : World} (hb1 : Below W1.heap.size W1 w1) (hq : Below W.heap.size W W1) : Below W.heap.size W w1 := hq.trans (hb1.mono hq.size)
theorem RdB.more {w : World} {B B' : Nat} {A : Option Addr} {n : Nat} (h : RdB w B A n) (hB : B ≤ B') : RdB w B' A n := fun hn => by
  obtain ⟨b, off, e, hb, hc⟩ := h hn
  exact ⟨b, off, e, by omega, hc⟩
theorem bytes_of {w : World} {x : Addr} {len cap : Nat} {zs : List Int} (hl : len ≤ cap) (hz : zs.length = cap) (hcell : ∀ i, i < zs.length → w.cell? (x.add i) = some (.int .u8 (zs.getD i 0))) (hwz : ∀ n ∈ zs, (Lit.int .u8 n).wf = true) : RdB w w.heap.size (some x) len := fun hn => by
  obtain ⟨b, off, spot⟩ := x
  have h0 := hcell 0 (by omega)
  have hspot : spot = none := by simpa [Addr.add] using World.cell?_spot h0
  subst hspot
  have ad : ∀ j, (⟨b, off, none⟩ : Addr).add j = ⟨b, off + j, none⟩ := fun j => by unfold Addr.add; split <;> simp_all
  refine ⟨b, off, rfl, ?_, fun i hi => ?_⟩
  · exact World.block_lt_of_cell? w _ h0
  · have hc := hcell i (by omega)
    rw [ad] at hc
    have hmem : zs.getD i 0 ∈ zs := by rw [List.getD_eq_getElem?_getD, List.getElem?_eq_getElem (by omega)]; exact List.getElem_mem (by omega)
    have hw := hwz _ hmem
    simp [Lit.wf, IntKind.min, IntKind.max, IntKind.signed, IntKind.bits] at hw
    obtain ⟨k, hk⟩ := Int.eq_ofNat_of_zero_le (a := zs.getD i 0) (by simpa using hw.1)
    refine ⟨k, ?_, by rw [hc, hk]⟩
    have := hw.2
    have hk' : zs[i]?.getD 0 = (k : Int) := by simpa using hk
    omega
theorem goodB_true {a b : List Rg} {n : Int} (h : goodB ⟨a, b, n⟩ = true) : Srt 0 65535 a ∧ Srt 65536 1114111 b ∧ tidyL a = true ∧ tidyL b = true ∧ n = latN a := by
  simp only [goodB, tidyB, Bool.and_eq_true] at h
  obtain ⟨v1, v2, v3⟩ := validB_true h.1
  exact ⟨v1, v2, h.2.1, h.2.2, v3⟩
end Go.Proofs.Ytnhmacmpobkdoaa
