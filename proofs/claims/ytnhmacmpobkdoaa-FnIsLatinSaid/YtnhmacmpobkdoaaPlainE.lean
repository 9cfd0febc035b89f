/- Plain facts on lists of ranges that are made out of others: cut in two, ended with their last number, with strides of 1, and what lies between. No program occurs here. -/
import Derived.Test.YtnhmacmpobkdoaaPlainD
namespace Go.Proofs.Ytnhmacmpobkdoaa
set_option linter.unusedVariables false

/-- Sorted, not overlapping, within the bounds, told from the first range on. -/
def SrtR (H : Int) : Int → List Rg → Prop
  | _, [] => True
  | L, x :: l => x.st ≠ 0 ∧ x.lo ≤ x.hi ∧ L ≤ x.lo ∧ x.hi ≤ H ∧ SrtR H (x.hi + 1) l
theorem SrtR.le {H L L' : Int} {l : List Rg} (h : SrtR H L l) (hL : L' ≤ L) : SrtR H L' l := by
  cases l with
  | nil => trivial
  | cons x l =>
    obtain ⟨h0, h1, h2, h3, h4⟩ := h
    exact ⟨h0, h1, by omega, h3, h4⟩
theorem SrtR.srt {H : Int} : ∀ {l : List Rg} {L : Int}, SrtR H L l → Srt L H l := by
  intro l
  induction l with
  | nil => intro L _ i hi; simp at hi
  | cons x l ih =>
    intro L ⟨h0, h1, h2, h3, h4⟩ i hi
    cases i with
    | zero => exact ⟨h0, h1, h2, h3, fun h => absurd h (by omega)⟩
    | succ j =>
      have hj : j < l.length := by simpa using hi
      obtain ⟨k0, k1, k2, k3, k4⟩ := ih h4 j hj
      unfold Ok1
      simp only [List.getD_cons_succ, Nat.add_sub_cancel]
      refine ⟨k0, k1, by omega, k3, fun _ => ?_⟩
      cases j with
      | zero => simp only [List.getD_cons_zero]; omega
      | succ m => simp only [List.getD_cons_succ]; simpa using k4 (by omega)
theorem Srt.tail {L H : Int} {x : Rg} {l : List Rg} (h : Srt L H (x :: l)) : Srt (x.hi + 1) H l := by
  intro j hj
  have hj' : j + 1 < (x :: l).length := by simpa using hj
  obtain ⟨k0, k1, k2, k3, k4⟩ := h (j + 1) hj'
  have hu := h.up (i := 0) (j := j + 1) (by omega) hj'
  simp only [List.getD_cons_succ, List.getD_cons_zero, Nat.add_sub_cancel] at k0 k1 k2 k3 k4 hu
  refine ⟨k0, k1, by omega, k3, fun h0 => ?_⟩
  have := k4 (by omega)
  obtain ⟨m, rfl⟩ : ∃ m, j = m + 1 := ⟨j - 1, by omega⟩
  simpa using this
theorem Srt.srtR {H : Int} : ∀ {l : List Rg} {L : Int}, Srt L H l → SrtR H L l := by
  intro l
  induction l with
  | nil => intro L _; trivial
  | cons x l ih =>
    intro L h
    obtain ⟨k0, k1, k2, k3, _⟩ := h 0 (by simp)
    exact ⟨k0, k1, k2, k3, ih h.tail⟩

/-- Strides are at least 1, and no range ends ahead of its first number. -/
def Stp (l : List Rg) : Prop := ∀ x ∈ l, 1 ≤ x.st ∧ x.lo ≤ x.hi
theorem Srt.stp {L H M : Int} {l : List Rg} (h : Srt L H l) (hw : Wf M l) : Stp l := fun x hx => by
  obtain ⟨h1, h2⟩ := h.pos x hx
  have h3 := (hw x hx).2.2.2.2.1
  exact ⟨by omega, h2⟩
theorem Stp.head {x : Rg} {l : List Rg} (h : Stp (x :: l)) : 1 ≤ x.st ∧ x.lo ≤ x.hi := h x (by simp)
theorem Stp.tail {x : Rg} {l : List Rg} (h : Stp (x :: l)) : Stp l := fun y hy => h y (by simp [hy])

/-- A range cut in two behind its first number, where it has two at least. -/
def cut1 (x : Rg) : List Rg := if x.lo + x.st ≤ x.hi then [⟨x.lo, x.lo, x.st⟩, ⟨x.lo + x.st, x.hi, x.st⟩] else [x]
def cutL (l : List Rg) : List Rg := l.flatMap cut1
theorem cutL_cons (x : Rg) (l : List Rg) : cutL (x :: l) = cut1 x ++ cutL l := rfl
theorem mem_cut1 {x : Rg} (h0 : 1 ≤ x.st) (h1 : x.lo ≤ x.hi) (r : Int) : memB (cut1 x) r = inB x r := by
  unfold cut1
  split
  · rename_i hc
    rw [Bool.eq_iff_iff]
    simp only [memB_cons, memB_nil, Bool.or_false, Bool.or_eq_true, inB_true]
    constructor
    · rintro (⟨a, b, c⟩ | ⟨a, b, c⟩)
      · exact ⟨a, by omega, c⟩
      · refine ⟨by omega, b, ?_⟩
        rw [show r - x.lo = (r - (x.lo + x.st)) + x.st from by omega, Int.add_emod_right]
        exact c
    · rintro ⟨a, b, c⟩
      by_cases hr : r = x.lo
      · exact .inl ⟨a, by omega, c⟩
      · refine .inr ⟨?_, b, ?_⟩
        · have := mod_apart (x := 0) (y := r - x.lo) (s := x.st) (by simp) c (by omega)
          omega
        · rw [show r - (x.lo + x.st) = (r - x.lo) - x.st from by omega]
          exact Int.emod_eq_zero_of_dvd (Int.dvd_sub (Int.dvd_of_emod_eq_zero c) (Int.dvd_refl _))
  · rw [memB_cons, memB_nil, Bool.or_false]
theorem mem_cutL {l : List Rg} (h : Stp l) (r : Int) : memB (cutL l) r = memB l r := by
  induction l with
  | nil => rfl
  | cons x l ih => rw [cutL_cons, memB_append, mem_cut1 h.head.1 h.head.2, ih h.tail, memB_cons]
theorem srt_cutL {H : Int} : ∀ {l : List Rg} {L : Int}, SrtR H L l → Stp l → SrtR H L (cutL l) := by
  intro l
  induction l with
  | nil => intro L _ _; trivial
  | cons x l ih =>
    intro L ⟨h0, h1, h2, h3, h4⟩ hs
    have h5 := hs.head.1
    rw [cutL_cons]
    unfold cut1
    split
    · rename_i hc
      exact ⟨h0, Int.le_refl _, h2, by simp only; omega, h0, hc, by simp only; omega, h3, ih h4 hs.tail⟩
    · exact ⟨h0, h1, h2, h3, ih h4 hs.tail⟩
theorem cut1_length (x : Rg) : (cut1 x).length ≤ 2 := by unfold cut1; split <;> simp

theorem emod_le {a b : Int} (ha : 0 ≤ a) (hb : 1 ≤ b) : 0 ≤ a % b ∧ a % b ≤ a := by
  have h1 := Int.emod_nonneg a (b := b) (by omega)
  have h2 := Int.mul_ediv_add_emod a b
  have h3 := Int.mul_nonneg (a := b) (b := a / b) (by omega) (Int.ediv_nonneg ha (by omega))
  exact ⟨h1, by omega⟩
/-- A range that ends with its last number. -/
def end1 (x : Rg) : Rg := ⟨x.lo, x.hi - (x.hi - x.lo) % x.st, x.st⟩
def endsL (l : List Rg) : List Rg := l.map end1
theorem end1_le {x : Rg} (h0 : 1 ≤ x.st) (h1 : x.lo ≤ x.hi) : x.lo ≤ (end1 x).hi ∧ (end1 x).hi ≤ x.hi := by
  have := emod_le (a := x.hi - x.lo) (b := x.st) (by omega) h0
  simp only [end1]
  omega
theorem in_end1 {x : Rg} (h0 : 1 ≤ x.st) (h1 : x.lo ≤ x.hi) (r : Int) : inB (end1 x) r = inB x r := by
  have hl := end1_le h0 h1
  rw [Bool.eq_iff_iff, inB_true, inB_true]
  constructor
  · rintro ⟨a, b, c⟩
    exact ⟨a, by omega, c⟩
  · rintro ⟨a, b, c⟩
    refine ⟨a, ?_, c⟩
    obtain ⟨k, hk⟩ := Int.dvd_of_emod_eq_zero c
    have e : (x.hi - x.lo) % x.st = (x.hi - r) % x.st := by
      rw [show x.hi - x.lo = (x.hi - r) + x.st * k from by omega, Int.add_mul_emod_self_left]
    have := emod_le (a := x.hi - r) (b := x.st) (by omega) h0
    simp only [end1, e]
    omega
theorem mem_endsL {l : List Rg} (h : Stp l) (r : Int) : memB (endsL l) r = memB l r := by
  induction l with
  | nil => rfl
  | cons x l ih =>
    have e : endsL (x :: l) = end1 x :: endsL l := rfl
    rw [e, memB_cons, memB_cons, in_end1 h.head.1 h.head.2, ih h.tail]
theorem srt_endsL {H : Int} : ∀ {l : List Rg} {L : Int}, SrtR H L l → Stp l → SrtR H L (endsL l) := by
  intro l
  induction l with
  | nil => intro L _ _; trivial
  | cons x l ih =>
    intro L ⟨h0, h1, h2, h3, h4⟩ hs
    have hl := end1_le hs.head.1 h1
    exact ⟨h0, hl.1, h2, by omega, (ih h4 hs.tail).le (by omega)⟩

/-- A range with a stride of 1. -/
def fine1 (x : Rg) : Rg := ⟨x.lo, x.hi, 1⟩
def fineL (l : List Rg) : List Rg := l.map fine1
theorem mem_fineL {l : List Rg} {r : Int} (h : memB l r = true) : memB (fineL l) r = true := by
  rw [memB_true] at h ⊢
  obtain ⟨x, hx, hi⟩ := h
  rw [inB_true] at hi
  refine ⟨fine1 x, List.mem_map.2 ⟨x, hx, rfl⟩, ?_⟩
  rw [inB_true]
  exact ⟨hi.1, hi.2.1, Int.emod_one _⟩
theorem srt_fineL {H : Int} : ∀ {l : List Rg} {L : Int}, SrtR H L l → SrtR H L (fineL l) := by
  intro l
  induction l with
  | nil => intro L _; trivial
  | cons x l ih =>
    intro L ⟨h0, h1, h2, h3, h4⟩
    exact ⟨by simp only [fine1]; omega, h1, h2, h3, ih h4⟩
/-- All strides are 1. -/
def St1 (l : List Rg) : Prop := ∀ x ∈ l, x.st = 1
theorem st1_fineL (l : List Rg) : St1 (fineL l) := fun x hx => by
  obtain ⟨y, _, rfl⟩ := List.mem_map.1 hx
  rfl

/-- What lies between ranges, from a number on up to H. -/
def gapsL (H : Int) : Int → List Rg → List Rg
  | nx, [] => if nx ≤ H then [⟨nx, H, 1⟩] else []
  | nx, x :: l => if nx < x.lo then ⟨nx, x.lo - 1, 1⟩ :: gapsL H (x.hi + 1) l else gapsL H (x.hi + 1) l
theorem srt_gapsL {H : Int} : ∀ {l : List Rg} {nx : Int}, SrtR H nx l → SrtR H nx (gapsL H nx l) := by
  intro l
  induction l with
  | nil =>
    intro nx _
    unfold gapsL
    split
    · rename_i h
      exact ⟨by simp, h, Int.le_refl _, Int.le_refl _, trivial⟩
    · trivial
  | cons x l ih =>
    intro nx ⟨h0, h1, h2, h3, h4⟩
    unfold gapsL
    split
    · rename_i h
      exact ⟨by simp, by simp only; omega, Int.le_refl _, by simp only; omega, (ih h4).le (by simp only; omega)⟩
    · exact (ih h4).le (by omega)
theorem in_one {lo hi r : Int} : inB ⟨lo, hi, 1⟩ r = (decide (lo ≤ r) && decide (r ≤ hi)) := by simp [inB, Int.emod_one]
theorem mem_gapsL {H : Int} : ∀ {l : List Rg} {nx r : Int}, SrtR H nx l → St1 l → nx ≤ r → r ≤ H → memB (gapsL H nx l) r = !memB l r := by
  intro l
  induction l with
  | nil =>
    intro nx r _ _ h1 h2
    unfold gapsL
    rw [if_pos (by omega), memB_cons, memB_nil, in_one]
    simp [h1, h2]
  | cons x l ih =>
    intro nx r h hs h1 h2
    obtain ⟨g0, g1, g2, g3, g4⟩ := h
    have hx : x.st = 1 := hs x (by simp)
    have hs' : St1 l := fun y hy => hs y (by simp [hy])
    have hin : inB x r = (decide (x.lo ≤ r) && decide (r ≤ x.hi)) := by simp [inB, hx, Int.emod_one]
    have srest := (srt_gapsL g4).srt
    unfold gapsL
    rw [memB_cons, hin]
    by_cases c1 : r < x.lo
    · rw [if_pos (by omega), memB_cons, in_one, mem_neg g4.srt (by omega)]
      have e1 : decide (x.lo ≤ r) = false := by simp; omega
      have e2 : decide (r ≤ x.lo - 1) = true := by simp; omega
      simp [e1, e2, h1]
    · have e1 : decide (x.lo ≤ r) = true := by simp; omega
      have e2 : decide (r ≤ x.lo - 1) = false := by simp; omega
      have key : memB (if nx < x.lo then ⟨nx, x.lo - 1, 1⟩ :: gapsL H (x.hi + 1) l else gapsL H (x.hi + 1) l) r = memB (gapsL H (x.hi + 1) l) r := by
        split
        · rw [memB_cons, in_one, e2, Bool.and_false, Bool.false_or]
        · rfl
      rw [key]
      by_cases c2 : r ≤ x.hi
      · rw [mem_neg srest (by omega)]
        simp [e1, c2]
      · rw [ih g4 hs' (by omega) h2]
        have e3 : decide (r ≤ x.hi) = false := by simp; omega
        simp [e3]
theorem gapsL_length (H : Int) : ∀ (l : List Rg) (nx : Int), (gapsL H nx l).length ≤ l.length + 1 := by
  intro l
  induction l with
  | nil => intro nx; unfold gapsL; split <;> simp
  | cons x l ih =>
    intro nx
    unfold gapsL
    have := ih (x.hi + 1)
    split <;> simp only [List.length_cons] <;> omega
theorem drop_cons {l : List Rg} {i : Nat} {x : Rg} (hi : i < l.length) (h : l.getD i ⟨0, 0, 0⟩ = x) : l.drop i = x :: l.drop (i + 1) := by
  rw [List.drop_eq_getElem_cons hi]
  rw [List.getD_eq_getElem?_getD, List.getElem?_eq_getElem hi] at h
  simp at h
  rw [h]
theorem gap_yes {H nx : Int} {a l G : List Rg} {i : Nat} {x : Rg} (h : l ++ gapsL H nx (a.drop i) = G) (hi : i < a.length) (hx : a.getD i ⟨0, 0, 0⟩ = x) (hc : nx < x.lo) : (l ++ [⟨nx, x.lo - 1, 1⟩]) ++ gapsL H (x.hi + 1) (a.drop (i + 1)) = G := by
  rw [drop_cons hi hx, gapsL, if_pos hc] at h
  simpa using h
theorem gap_no {H nx : Int} {a l G : List Rg} {i : Nat} {x : Rg} (h : l ++ gapsL H nx (a.drop i) = G) (hi : i < a.length) (hx : a.getD i ⟨0, 0, 0⟩ = x) (hc : ¬ nx < x.lo) : l ++ gapsL H (x.hi + 1) (a.drop (i + 1)) = G := by
  rw [drop_cons hi hx, gapsL, if_neg hc] at h
  exact h
theorem gap_end {H nx : Int} {a l G : List Rg} {i : Nat} (h : l ++ gapsL H nx (a.drop i) = G) (hi : i ≤ a.length) (hn : ¬ i < a.length) : (nx ≤ H → l ++ [⟨nx, H, 1⟩] = G) ∧ (¬ nx ≤ H → l = G) := by
  rw [show i = a.length from by omega, List.drop_length, gapsL] at h
  refine ⟨fun hc => ?_, fun hc => ?_⟩
  · rw [if_pos hc] at h; exact h
  · rw [if_neg hc] at h; simpa using h
theorem cut_yes {a l : List Rg} {i : Nat} {x : Rg} (h : l ++ cutL (a.drop i) = cutL a) (hi : i < a.length) (hx : a.getD i ⟨0, 0, 0⟩ = x) (hc : x.lo + x.st ≤ x.hi) : (l ++ [⟨x.lo, x.lo, x.st⟩]) ++ [⟨x.lo + x.st, x.hi, x.st⟩] ++ cutL (a.drop (i + 1)) = cutL a := by
  rw [drop_cons hi hx, cutL_cons, cut1, if_pos hc] at h
  simpa using h
theorem cut_no {a l : List Rg} {i : Nat} {x : Rg} (h : l ++ cutL (a.drop i) = cutL a) (hi : i < a.length) (hx : a.getD i ⟨0, 0, 0⟩ = x) (hc : ¬ x.lo + x.st ≤ x.hi) : l ++ [x] ++ cutL (a.drop (i + 1)) = cutL a := by
  rw [drop_cons hi hx, cutL_cons, cut1, if_neg hc] at h
  simpa using h
theorem cut_end {a l : List Rg} {i : Nat} (h : l ++ cutL (a.drop i) = cutL a) (hi : i ≤ a.length) (hn : ¬ i < a.length) : l = cutL a := by
  rw [show i = a.length from by omega, List.drop_length] at h
  simpa [cutL] using h
end Go.Proofs.Ytnhmacmpobkdoaa
