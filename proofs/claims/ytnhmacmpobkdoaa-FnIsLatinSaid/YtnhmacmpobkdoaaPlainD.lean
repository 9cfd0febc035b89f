/- Plain facts on a range of a sorted list: the numbers from one of its numbers to the next one. No program occurs here. -/
import Derived.Test.YtnhmacmpobkdoaaPlainC
namespace Go.Proofs.Ytnhmacmpobkdoaa
theorem isB_lower {a b : List Rg} {n r H : Int} (v : Srt 65536 H b) (h : r < 65536) : isB ⟨a, b, n⟩ r = memB a r := by simp [isB, mem_neg v h]
theorem isB_upper {a b : List Rg} {n r L : Int} (v : Srt L 65535 a) (h : 65535 < r) : isB ⟨a, b, n⟩ r = memB b r := by simp [isB, mem_over v h]
theorem mod_apart {x y s : Int} (h1 : x % s = 0) (h2 : y % s = 0) (hlt : x < y) : s ≤ y - x := by
  have d1 := Int.dvd_of_emod_eq_zero h1
  have d2 := Int.dvd_of_emod_eq_zero h2
  exact Int.le_of_dvd (by omega) (Int.dvd_sub d2 d1)
/-- What follows a number of range i: nothing ahead of the next stride, and that one, up to the end. -/
theorem step_mem {L H : Int} {l : List Rg} (v : Srt L H l) (ht : tidyL l = true) {i : Nat} (hi : i < l.length) {x : Rg} (hx : l.getD i ⟨0, 0, 0⟩ = x) {r : Int} (h1 : x.lo ≤ r) (h2 : r ≤ x.hi) (hm : memB l r = true) :
    (∀ m, r < m → m < r + x.st → m ≤ x.hi → memB l m = false) ∧ (x.hi < r + x.st → r = x.hi) ∧ (r + x.st ≤ x.hi → 0 ≤ x.st → memB l (r + x.st) = true) := by
  subst hx
  have e1 := mem_at v i hi h1 h2
  rw [hm] at e1
  have e2 : (r - (l.getD i ⟨0, 0, 0⟩).lo) % (l.getD i ⟨0, 0, 0⟩).st = 0 := by simpa using e1.symm
  refine ⟨fun m h3 h4 h5 => ?_, fun h3 => ?_, fun h3 h4 => ?_⟩
  · rw [mem_at v i hi (by omega) h5]
    rw [Bool.eq_false_iff]
    intro hc
    have hc' : (m - (l.getD i ⟨0, 0, 0⟩).lo) % (l.getD i ⟨0, 0, 0⟩).st = 0 := by simpa using hc
    have := mod_apart e2 hc' (by omega)
    omega
  · rcases Int.lt_or_le r (l.getD i ⟨0, 0, 0⟩).hi with h4 | h4
    · simp only [tidyL, List.all_eq_true] at ht
      have h5 := ht _ (getD_mem hi)
      have h6 : ((l.getD i ⟨0, 0, 0⟩).hi - (l.getD i ⟨0, 0, 0⟩).lo) % (l.getD i ⟨0, 0, 0⟩).st = 0 := by simpa using h5
      have := mod_apart e2 h6 (by omega)
      omega
    · omega
  · rw [mem_at v i hi (by omega) h3]
    rw [show r + (l.getD i ⟨0, 0, 0⟩).st - (l.getD i ⟨0, 0, 0⟩).lo = (r - (l.getD i ⟨0, 0, 0⟩).lo) + (l.getD i ⟨0, 0, 0⟩).st from by omega, Int.add_emod_right]
    simpa using e2
end Go.Proofs.Ytnhmacmpobkdoaa
