/- Plain lists of ranges: which numbers they hold, when they are in sorted order, and that the two searches find what the reference finds. No program occurs here. -/
import Derived.Below
namespace Go.Proofs.Ytnhmacmpobkdoaa

/-- A range: first number, end, stride. -/
structure Rg where
  lo : Int
  hi : Int
  st : Int

/-- A table: its two lists of ranges, and its number of Latin ranges. -/
structure Tab where
  a : List Rg
  b : List Rg
  n : Int

/-- A number is one of a range. -/
def inB (x : Rg) (r : Int) : Bool := decide (x.lo ≤ r) && decide (r ≤ x.hi) && ((r - x.lo) % x.st == 0)
/-- A number is in one of the ranges. -/
def memB (l : List Rg) (r : Int) : Bool := l.any (inB · r)
/-- A number is in a table. -/
def isB (T : Tab) (r : Int) : Bool := memB T.a r || memB T.b r

/-- All numbers of the ranges lie from 0 to below M. -/
def Wf (M : Int) (l : List Rg) : Prop := ∀ x ∈ l, 0 ≤ x.lo ∧ x.lo < M ∧ 0 ≤ x.hi ∧ x.hi < M ∧ 0 ≤ x.st ∧ x.st < M

/-- One range of a sorted list: its stride is not 0, it does not end ahead of its first number, it lies in the bounds and behind the range ahead of it. -/
def Ok1 (L H : Int) (l : List Rg) (i : Nat) : Prop :=
  (l.getD i ⟨0, 0, 0⟩).st ≠ 0 ∧ (l.getD i ⟨0, 0, 0⟩).lo ≤ (l.getD i ⟨0, 0, 0⟩).hi ∧ L ≤ (l.getD i ⟨0, 0, 0⟩).lo ∧ (l.getD i ⟨0, 0, 0⟩).hi ≤ H ∧
    (0 < i → (l.getD (i - 1) ⟨0, 0, 0⟩).hi < (l.getD i ⟨0, 0, 0⟩).lo)
instance (L H : Int) (l : List Rg) (i : Nat) : Decidable (Ok1 L H l i) := by unfold Ok1; infer_instance
/-- Sorted, not overlapping, within the bounds. -/
def Srt (L H : Int) (l : List Rg) : Prop := ∀ i, i < l.length → Ok1 L H l i
instance (L H : Int) (l : List Rg) : Decidable (Srt L H l) := by unfold Srt; infer_instance

def v16B (l : List Rg) : Bool := decide (Srt 0 65535 l)
def v32B (l : List Rg) : Bool := decide (Srt 65536 1114111 l)
def latN (l : List Rg) : Int := ((l.filter fun x => decide (x.hi ≤ 255)).length : Int)
def validB (T : Tab) : Bool := v16B T.a && v32B T.b && (T.n == latN T.a)
def tidyL (l : List Rg) : Bool := l.all fun x => (x.hi - x.lo) % x.st == 0
def tidyB (T : Tab) : Bool := tidyL T.a && tidyL T.b
def goodB (T : Tab) : Bool := validB T && tidyB T

theorem memB_nil (r : Int) : memB [] r = false := rfl
theorem memB_cons (x : Rg) (l : List Rg) (r : Int) : memB (x :: l) r = (inB x r || memB l r) := rfl
theorem memB_append (l m : List Rg) (r : Int) : memB (l ++ m) r = (memB l r || memB m r) := by simp [memB]
theorem memB_true {l : List Rg} {r : Int} : memB l r = true ↔ ∃ x ∈ l, inB x r = true := by simp [memB]
theorem memB_false {l : List Rg} {r : Int} : memB l r = false ↔ ∀ x ∈ l, inB x r = false := by simp [memB]
theorem inB_true {x : Rg} {r : Int} : inB x r = true ↔ x.lo ≤ r ∧ r ≤ x.hi ∧ (r - x.lo) % x.st = 0 := by simp [inB, and_assoc]
theorem inB_lo {x : Rg} {r : Int} (h : r < x.lo) : inB x r = false := by
  have : decide (x.lo ≤ r) = false := by simp; omega
  simp [inB, this]
theorem inB_hi {x : Rg} {r : Int} (h : x.hi < r) : inB x r = false := by
  have : decide (r ≤ x.hi) = false := by simp; omega
  simp [inB, this]
theorem inB_mid {x : Rg} {r : Int} (h : x.lo ≤ r) (h' : r ≤ x.hi) : inB x r = ((r - x.lo) % x.st == 0) := by simp [inB, h, h']

theorem getD_mem {l : List Rg} {i : Nat} (h : i < l.length) : l.getD i ⟨0, 0, 0⟩ ∈ l := by
  rw [List.getD_eq_getElem?_getD, List.getElem?_eq_getElem h]; exact List.getElem_mem h
theorem mem_getD {l : List Rg} {x : Rg} (h : x ∈ l) : ∃ i, i < l.length ∧ l.getD i ⟨0, 0, 0⟩ = x := by
  obtain ⟨i, hi, rfl⟩ := List.getElem_of_mem h
  exact ⟨i, hi, by rw [List.getD_eq_getElem?_getD, List.getElem?_eq_getElem hi]; rfl⟩
theorem getD_of {l : List Rg} {i : Nat} {x : Rg} (h : l[i]? = some x) : l.getD i ⟨0, 0, 0⟩ = x := by
  rw [List.getD_eq_getElem?_getD, h]; rfl

theorem Srt.up {L H : Int} {l : List Rg} (h : Srt L H l) : ∀ {i j : Nat}, i < j → j < l.length → (l.getD i ⟨0, 0, 0⟩).hi < (l.getD j ⟨0, 0, 0⟩).lo := by
  intro i j
  induction j with
  | zero => intro h; omega
  | succ j ih =>
    intro hij hj
    have h1 := (h (j + 1) hj).2.2.2.2 (by omega)
    simp only [Nat.add_sub_cancel] at h1
    rcases Nat.lt_or_ge i j with hlt | hge
    · have h2 := ih hlt (by omega)
      have h3 := (h j (by omega)).2.1
      omega
    · have : i = j := by omega
      subst this
      exact h1

/-- Behind ranges that end ahead of r, and ahead of ranges that begin behind it, r is in no range. -/
theorem mem_none {l : List Rg} {r : Int} (k : Nat) (h1 : ∀ j, j < k → j < l.length → (l.getD j ⟨0, 0, 0⟩).hi < r) (h2 : ∀ j, k ≤ j → j < l.length → r < (l.getD j ⟨0, 0, 0⟩).lo) : memB l r = false := by
  rw [memB_false]
  intro x hx
  obtain ⟨j, hj, rfl⟩ := mem_getD hx
  rcases Nat.lt_or_ge j k with h | h
  · exact inB_hi (h1 j h hj)
  · exact inB_lo (h2 j h hj)
/-- A range that r lies in by its bounds decides. -/
theorem mem_at {L H : Int} {l : List Rg} {r : Int} (h : Srt L H l) (k : Nat) (hk : k < l.length) (h1 : (l.getD k ⟨0, 0, 0⟩).lo ≤ r) (h2 : r ≤ (l.getD k ⟨0, 0, 0⟩).hi) :
    memB l r = ((r - (l.getD k ⟨0, 0, 0⟩).lo) % (l.getD k ⟨0, 0, 0⟩).st == 0) := by
  rw [← inB_mid h1 h2]
  cases hb : inB (l.getD k ⟨0, 0, 0⟩) r
  · rw [memB_false]
    intro x hx
    obtain ⟨j, hj, rfl⟩ := mem_getD hx
    rcases Nat.lt_trichotomy j k with hjk | hjk | hjk
    · exact inB_hi (by have := h.up hjk hk; omega)
    · subst hjk; exact hb
    · exact inB_lo (by have := h.up hjk hj; omega)
  · rw [memB_true]
    exact ⟨_, getD_mem hk, hb⟩
/-- All ranges with an index below i end ahead of r. -/
def Past (l : List Rg) (r : Int) (i : Nat) : Prop := ∀ j, j < i → j < l.length → (l.getD j ⟨0, 0, 0⟩).hi < r
/-- All ranges with an index from i on begin behind r. -/
def Ahead (l : List Rg) (r : Int) (i : Nat) : Prop := ∀ j, i ≤ j → j < l.length → r < (l.getD j ⟨0, 0, 0⟩).lo
theorem Past.zero (l : List Rg) (r : Int) : Past l r 0 := fun j h => by omega
theorem Past.succ {l : List Rg} {r : Int} {i : Nat} (h : Past l r i) (hi : (l.getD i ⟨0, 0, 0⟩).hi < r) : Past l r (i + 1) := fun j h1 h2 => by
  rcases Nat.lt_or_ge j i with hj | hj
  · exact h j hj h2
  · have : j = i := by omega
    subst this; exact hi
theorem Past.upto {L H : Int} {l : List Rg} (hs : Srt L H l) {r : Int} {i : Nat} (hl : i < l.length) (hi : (l.getD i ⟨0, 0, 0⟩).hi < r) : Past l r (i + 1) := fun j h1 h2 => by
  rcases Nat.lt_or_ge j i with hj | hj
  · have := hs.up hj hl
    have := (hs i hl).2.1
    omega
  · have : j = i := by omega
    subst this; exact hi
theorem Ahead.end_ (l : List Rg) (r : Int) : Ahead l r l.length := fun j h1 h2 => by omega
theorem Ahead.from_ {L H : Int} {l : List Rg} (hs : Srt L H l) {r : Int} {i : Nat} (hi : r < (l.getD i ⟨0, 0, 0⟩).lo) : Ahead l r i := fun j h1 h2 => by
  rcases Nat.lt_or_ge i j with hj | hj
  · have := hs.up hj h2
    have := (hs i (by omega)).2.1
    omega
  · have : j = i := by omega
    subst this; exact hi
theorem mem_gap {l : List Rg} {r : Int} {k : Nat} (h1 : Past l r k) (h2 : Ahead l r k) : memB l r = false := mem_none k h1 h2
theorem mem_st1 {x r : Int} (h : x = 1) : (r % x == 0) = true := by subst h; simp [Int.emod_one]

/-- A sorted list of ranges within the bounds has no more ranges than there are numbers. -/
theorem Srt.len {L H : Int} {l : List Rg} (h : Srt L H l) : l ≠ [] → (l.length : Int) ≤ H - L + 1 := by
  intro hne
  have key : ∀ i, i < l.length → L + i ≤ (l.getD i ⟨0, 0, 0⟩).hi := by
    intro i
    induction i with
    | zero => intro h0; have := h 0 h0; have h1 := this.2.1; have h2 := this.2.2.1; omega
    | succ i ih =>
      intro hi
      have h1 := h.up (i := i) (j := i + 1) (by omega) hi
      have h2 := ih (by omega)
      have h3 := (h (i + 1) hi).2.1
      omega
  have hl : 0 < l.length := by cases l <;> simp_all
  have h1 := key (l.length - 1) (by omega)
  have h2 := (h (l.length - 1) (by omega)).2.2.2.1
  omega
theorem Srt.len16 {l : List Rg} (h : Srt 0 65535 l) : l.length ≤ 65536 := by
  by_cases hl : l = []
  · simp [hl]
  · have := h.len hl; omega
theorem Srt.len32 {l : List Rg} (h : Srt 65536 1114111 l) : l.length ≤ 1048576 := by
  by_cases hl : l = []
  · simp [hl]
  · have := h.len hl; omega
theorem mem_neg {L H : Int} {l : List Rg} (h : Srt L H l) {r : Int} (hr : r < L) : memB l r = false :=
  mem_gap (k := 0) (Past.zero _ _) (fun j _ hj => by have := (h j hj).2.2.1; omega)
theorem mem_over {L H : Int} {l : List Rg} (h : Srt L H l) {r : Int} (hr : H < r) : memB l r = false :=
  mem_gap (k := l.length) (fun j _ hj => by have := (h j hj).2.2.2.1; omega) (Ahead.end_ _ _)
theorem mem_last {L H : Int} {l : List Rg} (h : Srt L H l) {r : Int} (hl : 0 < l.length) (hr : (l.getD (l.length - 1) ⟨0, 0, 0⟩).hi < r) : memB l r = false := by
  have hp := Past.upto h (r := r) (i := l.length - 1) (by omega) hr
  rw [show l.length - 1 + 1 = l.length from by omega] at hp
  exact mem_gap hp (Ahead.end_ _ _)
theorem mem_first {L H : Int} {l : List Rg} (h : Srt L H l) {r : Int} (hr : r < (l.getD 0 ⟨0, 0, 0⟩).lo) : memB l r = false :=
  mem_gap (k := 0) (Past.zero _ _) (Ahead.from_ h hr)
theorem mem_empty {l : List Rg} (h : ¬ 0 < l.length) (r : Int) : memB l r = false := by
  have : l = [] := List.eq_nil_of_length_eq_zero (by omega)
  subst this; rfl
theorem v16B_true {l : List Rg} (h : v16B l = true) : Srt 0 65535 l := of_decide_eq_true h
theorem v32B_true {l : List Rg} (h : v32B l = true) : Srt 65536 1114111 l := of_decide_eq_true h
theorem validB_true {T : Tab} (h : validB T = true) : Srt 0 65535 T.a ∧ Srt 65536 1114111 T.b ∧ T.n = latN T.a := by
  simp only [validB, Bool.and_eq_true, beq_iff_eq] at h
  exact ⟨v16B_true h.1.1, v32B_true h.1.2, h.2⟩
end Go.Proofs.Ytnhmacmpobkdoaa
