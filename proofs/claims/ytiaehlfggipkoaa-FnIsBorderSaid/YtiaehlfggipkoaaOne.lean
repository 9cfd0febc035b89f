/- Lists of one range, in memory and plain. -/
import Derived.Test.YtiaehlfggipkoaaLawZ
import Derived.Test.YtiaehlfggipkoaaPlainD
namespace Go.Proofs.Ytiaehlfggipkoaa
open Go.RowKit
set_option linter.unusedVariables false

theorem rd_one {w : World} {g : Nat} {t : TypeId} {k : IntKind} {M : Int} (x : Rg) (h : Bk w g t #[.int k x.lo, .int k x.hi, .int k x.st]) (hx : 0 ≤ x.lo ∧ x.lo < M ∧ 0 ≤ x.hi ∧ x.hi < M ∧ 0 ≤ x.st ∧ x.st < M) : Rd w w.heap.size k M (some ⟨g, 0, none⟩) [x] := by
  refine ⟨fun y hy => ?_, fun _ => ⟨g, 0, rfl, h.lt, fun i y hy => ?_⟩⟩
  · rw [List.mem_singleton] at hy
    subst hy; exact hx
  · have hi : i = 0 := by
      have := (List.getElem?_eq_some_iff.1 hy).1
      simp at this
      omega
    subst hi
    simp at hy
    subst hy
    exact ⟨h.cell 0, h.cell 1, h.cell 2⟩
theorem srt_one {L H : Int} (x : Rg) (h0 : x.st ≠ 0) (h1 : x.lo ≤ x.hi) (h2 : L ≤ x.lo) (h3 : x.hi ≤ H) : Srt L H [x] := fun i hi => by
  have : i = 0 := by simp at hi; omega
  subst this
  exact ⟨h0, h1, h2, h3, fun h => absurd h (by omega)⟩
theorem mem_one {x : Rg} {r : Int} : memB [x] r = inB x r := by simp [memB]
theorem in_st1 {lo hi r : Int} : inB ⟨lo, hi, 1⟩ r = (decide (lo ≤ r) && decide (r ≤ hi)) := by simp [inB, Int.emod_one]
theorem border_yes {lo hi r : Int} (h0 : lo < 65536) (h1 : 65536 ≤ hi) (h2 : lo ≤ r) (h3 : r ≤ hi) : isB ⟨[⟨lo, 65535, 1⟩], [⟨65536, hi, 1⟩], 0⟩ r = true := by
  simp only [isB, mem_one, in_st1, Bool.or_eq_true, Bool.and_eq_true, decide_eq_true_eq]
  omega
theorem border_no {lo hi r : Int} (h0 : lo < 65536) (h1 : 65536 ≤ hi) (h2 : ¬ (lo ≤ r ∧ r ≤ hi)) : isB ⟨[⟨lo, 65535, 1⟩], [⟨65536, hi, 1⟩], 0⟩ r = false := by
  rw [Bool.eq_false_iff]
  intro h
  simp only [isB, mem_one, in_st1, Bool.or_eq_true, Bool.and_eq_true, decide_eq_true_eq] at h
  omega
end Go.Proofs.Ytiaehlfggipkoaa
