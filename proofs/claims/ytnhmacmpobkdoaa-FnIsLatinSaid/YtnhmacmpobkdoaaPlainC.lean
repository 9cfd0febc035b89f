/- Plain facts on sorted lists of ranges that the laws ask for: the first and the last number of a range, what lies outside. No program occurs here. -/
import Derived.Test.YtnhmacmpobkdoaaPlainB
namespace Go.Proofs.Ytnhmacmpobkdoaa
theorem lo_mem {L H : Int} {l : List Rg} (h : Srt L H l) {i : Nat} (hi : i < l.length) : memB l (l.getD i ⟨0, 0, 0⟩).lo = true := by
  have h1 := (h i hi).2.1
  rw [mem_at h i hi (Int.le_refl _) h1]
  simp
theorem hi_mem {L H : Int} {l : List Rg} (h : Srt L H l) (ht : tidyL l = true) {i : Nat} (hi : i < l.length) : memB l (l.getD i ⟨0, 0, 0⟩).hi = true := by
  have h1 := (h i hi).2.1
  rw [mem_at h i hi h1 (Int.le_refl _)]
  simp only [tidyL, List.all_eq_true] at ht
  exact ht _ (getD_mem hi)
/-- A number that is in the list lies from its first range's first number to its last range's end. -/
theorem mem_in {L H : Int} {l : List Rg} (h : Srt L H l) {r : Int} (hm : memB l r = true) : 0 < l.length ∧ (l.getD 0 ⟨0, 0, 0⟩).lo ≤ r ∧ r ≤ (l.getD (l.length - 1) ⟨0, 0, 0⟩).hi ∧ L ≤ r ∧ r ≤ H := by
  rcases Nat.eq_zero_or_pos l.length with h0 | h0
  · rw [mem_empty (by omega)] at hm; cases hm
  · refine ⟨h0, ?_, ?_, ?_, ?_⟩
    · rcases Int.lt_or_le r (l.getD 0 ⟨0, 0, 0⟩).lo with h1 | h1
      · rw [mem_first h h1] at hm; cases hm
      · exact h1
    · rcases Int.lt_or_le (l.getD (l.length - 1) ⟨0, 0, 0⟩).hi r with h1 | h1
      · rw [mem_last h h0 h1] at hm; cases hm
      · exact h1
    · rcases Int.lt_or_le r L with h1 | h1
      · rw [mem_neg h h1] at hm; cases hm
      · exact h1
    · rcases Int.lt_or_le H r with h1 | h1
      · rw [mem_over h h1] at hm; cases hm
      · exact h1
theorem isB_left {a b : List Rg} {n r : Int} (h : memB a r = true) : isB ⟨a, b, n⟩ r = true := by simp [isB, h]
theorem isB_right {a b : List Rg} {n r : Int} (h : memB b r = true) : isB ⟨a, b, n⟩ r = true := by simp [isB, h]
theorem isB_or {a b : List Rg} {n r : Int} (h : isB ⟨a, b, n⟩ r = true) : memB a r = true ∨ memB b r = true := by simpa [isB] using h
/-- A number behind range i and ahead of the next one is not in the list. -/
theorem mem_between {L H : Int} {l : List Rg} (h : Srt L H l) {r : Int} {i : Nat} (hi : i < l.length) (h1 : (l.getD i ⟨0, 0, 0⟩).hi < r) (h2 : i + 1 < l.length → r < (l.getD (i + 1) ⟨0, 0, 0⟩).lo) : memB l r = false := by
  refine mem_gap (k := i + 1) (Past.upto h hi h1) (fun j hj hjl => ?_)
  exact Ahead.from_ h (h2 (by omega)) j hj hjl
end Go.Proofs.Ytnhmacmpobkdoaa
