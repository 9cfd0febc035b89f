/- More on plain lists of ranges: counting Latin ranges, tidy tables. No program occurs here. -/
import Derived.Test.YtnhmacmpobkdoaaPlain
namespace Go.Proofs.Ytnhmacmpobkdoaa
theorem latN_le (l : List Rg) : latN l ≤ l.length := by unfold latN; have := List.length_filter_le (fun x : Rg => decide (x.hi ≤ 255)) l; omega
theorem latN_nonneg (l : List Rg) : 0 ≤ latN l := by unfold latN; omega
theorem latN_append (l m : List Rg) : latN (l ++ m) = latN l + latN m := by simp [latN]
theorem latN_snoc {l : List Rg} {i : Nat} {x : Rg} (hi : i < l.length) (h : l.getD i ⟨0, 0, 0⟩ = x) : latN (l.take (i + 1)) = latN (l.take i) + if x.hi ≤ 255 then 1 else 0 := by
  rw [List.take_succ_eq_append_getElem hi]
  rw [List.getD_eq_getElem?_getD, List.getElem?_eq_getElem hi] at h
  simp at h
  rw [h, latN_append]
  by_cases hx : x.hi ≤ 255 <;> simp [latN, hx]

/-- The first i ranges end with a number of their stride. -/
def TidU (l : List Rg) (i : Nat) : Prop := ∀ j, j < i → j < l.length → ((l.getD j ⟨0, 0, 0⟩).hi - (l.getD j ⟨0, 0, 0⟩).lo) % (l.getD j ⟨0, 0, 0⟩).st = 0
theorem TidU.zero (l : List Rg) : TidU l 0 := fun j h => by omega
theorem TidU.succ {l : List Rg} {i : Nat} {x : Rg} (h : TidU l i) (hx : l.getD i ⟨0, 0, 0⟩ = x) (hi : (x.hi - x.lo) % x.st = 0) : TidU l (i + 1) := fun j hj hl => by
  rcases Nat.lt_or_ge j i with h1 | h1
  · exact h j h1 hl
  · have : j = i := by omega
    subst this; rw [hx]; exact hi
theorem TidU.end_ {l : List Rg} {i : Nat} (h : TidU l i) (hi : i ≤ l.length) (hn : ¬ i < l.length) : tidyL l = true := by
  have : i = l.length := by omega
  subst this
  simp only [tidyL, List.all_eq_true, beq_iff_eq]
  intro x hx
  obtain ⟨j, hj, rfl⟩ := mem_getD hx
  exact h j hj hj
theorem tidyL_no {l : List Rg} {i : Nat} {x : Rg} (hi : i < l.length) (hx : l.getD i ⟨0, 0, 0⟩ = x) (h : ¬ (x.hi - x.lo) % x.st = 0) : tidyL l = false := by
  rw [Bool.eq_false_iff]
  intro ht
  simp only [tidyL, List.all_eq_true, beq_iff_eq] at ht
  have := ht _ (getD_mem hi)
  rw [hx] at this
  exact h this

/-- None of the first i ranges has r. -/
def NonU (l : List Rg) (r : Int) (i : Nat) : Prop := ∀ j, j < i → j < l.length → inB (l.getD j ⟨0, 0, 0⟩) r = false
theorem NonU.zero (l : List Rg) (r : Int) : NonU l r 0 := fun j h => by omega
theorem NonU.succ {l : List Rg} {r : Int} {i : Nat} {x : Rg} (h : NonU l r i) (hx : l.getD i ⟨0, 0, 0⟩ = x) (hi : inB x r = false) : NonU l r (i + 1) := fun j hj hl => by
  rcases Nat.lt_or_ge j i with h1 | h1
  · exact h j h1 hl
  · have : j = i := by omega
    subst this; rw [hx]; exact hi
theorem NonU.end_ {l : List Rg} {r : Int} {i : Nat} (h : NonU l r i) (hi : i ≤ l.length) (hn : ¬ i < l.length) : memB l r = false := by
  have : i = l.length := by omega
  subst this
  rw [memB_false]
  intro x hx
  obtain ⟨j, hj, rfl⟩ := mem_getD hx
  exact h j hj hj
theorem memB_at {l : List Rg} {r : Int} {i : Nat} {x : Rg} (hi : i < l.length) (hx : l.getD i ⟨0, 0, 0⟩ = x) (h : inB x r = true) : memB l r = true := by
  rw [memB_true]
  exact ⟨x, hx ▸ getD_mem hi, h⟩
/-- Strides are at least 1, and no range ends ahead of its first number. -/
def Pos (l : List Rg) : Prop := ∀ x ∈ l, x.st ≠ 0 ∧ x.lo ≤ x.hi
theorem Srt.pos {L H : Int} {l : List Rg} (h : Srt L H l) : Pos l := fun x hx => by
  obtain ⟨j, hj, rfl⟩ := mem_getD hx
  exact ⟨(h j hj).1, (h j hj).2.1⟩

/-- The first i ranges are as a sorted list's are. -/
def Upto (L H : Int) (l : List Rg) (i : Nat) : Prop := ∀ j, j < i → Ok1 L H l j
theorem Upto.zero (L H : Int) (l : List Rg) : Upto L H l 0 := fun j h => by omega
theorem Upto.succ {L H : Int} {l : List Rg} {i : Nat} (h : Upto L H l i) (hi : Ok1 L H l i) : Upto L H l (i + 1) := fun j hj => by
  rcases Nat.lt_or_ge j i with h1 | h1
  · exact h j h1
  · have : j = i := by omega
    subst this; exact hi
theorem upto_end {L H : Int} {l : List Rg} {i : Nat} (h : Upto L H l i) (hi : i ≤ l.length) (hn : ¬ i < l.length) : Upto L H l l.length := by
  have : i = l.length := by omega
  subst this; exact h
theorem Upto1 {L H : Int} {l : List Rg} {i : Nat} : Ok1 L H l i = ((l.getD i ⟨0, 0, 0⟩).st ≠ 0 ∧ (l.getD i ⟨0, 0, 0⟩).lo ≤ (l.getD i ⟨0, 0, 0⟩).hi ∧ L ≤ (l.getD i ⟨0, 0, 0⟩).lo ∧ (l.getD i ⟨0, 0, 0⟩).hi ≤ H ∧
    (0 < i → (l.getD (i - 1) ⟨0, 0, 0⟩).hi < (l.getD i ⟨0, 0, 0⟩).lo)) := rfl
theorem valid16_no {l : List Rg} {i : Nat} (hi : i < l.length) (h : ¬ ((l.getD i ⟨0, 0, 0⟩).st ≠ 0 ∧ (l.getD i ⟨0, 0, 0⟩).lo ≤ (l.getD i ⟨0, 0, 0⟩).hi ∧ 0 ≤ (l.getD i ⟨0, 0, 0⟩).lo ∧ (l.getD i ⟨0, 0, 0⟩).hi ≤ 65535 ∧
    (0 < i → (l.getD (i - 1) ⟨0, 0, 0⟩).hi < (l.getD i ⟨0, 0, 0⟩).lo))) : v16B l = false := decide_eq_false fun hs => h (hs i hi)
theorem valid32_no {l : List Rg} {i : Nat} (hi : i < l.length) (h : ¬ ((l.getD i ⟨0, 0, 0⟩).st ≠ 0 ∧ (l.getD i ⟨0, 0, 0⟩).lo ≤ (l.getD i ⟨0, 0, 0⟩).hi ∧ 65536 ≤ (l.getD i ⟨0, 0, 0⟩).lo ∧ (l.getD i ⟨0, 0, 0⟩).hi ≤ 1114111 ∧
    (0 < i → (l.getD (i - 1) ⟨0, 0, 0⟩).hi < (l.getD i ⟨0, 0, 0⟩).lo))) : v32B l = false := decide_eq_false fun hs => h (hs i hi)
theorem valid16_yes {l : List Rg} (h : Upto 0 65535 l l.length) : v16B l = true := decide_eq_true h
theorem valid32_yes {l : List Rg} (h : Upto 65536 1114111 l l.length) : v32B l = true := decide_eq_true h
end Go.Proofs.Ytnhmacmpobkdoaa
