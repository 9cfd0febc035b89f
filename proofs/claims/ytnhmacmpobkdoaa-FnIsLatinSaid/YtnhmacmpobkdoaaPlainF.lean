/- Plain facts on ascending lists of numbers: the table of single numbers, the numbers of a table. No program occurs here. -/
import Derived.Test.YtnhmacmpobkdoaaPlainE
namespace Go.Proofs.Ytnhmacmpobkdoaa
set_option linter.unusedVariables false

/-- Ascending, each number once. -/
def Asc (zs : List Int) : Prop := zs.Pairwise (· < ·)
/-- All numbers are code points. -/
def Cps (zs : List Int) : Prop := ∀ z ∈ zs, 0 ≤ z ∧ z ≤ 1114111
def one1 (z : Int) : Rg := ⟨z, z, 1⟩
def ofA (zs : List Int) : List Rg := (zs.filter fun z => decide (z < 65536)).map one1
def ofB (zs : List Int) : List Rg := (zs.filter fun z => decide (65536 ≤ z)).map one1
theorem in_one1 (z r : Int) : inB (one1 z) r = decide (r = z) := by
  rw [Bool.eq_iff_iff, inB_true]
  simp only [one1, decide_eq_true_eq]
  constructor
  · rintro ⟨a, b, _⟩; omega
  · rintro rfl; exact ⟨Int.le_refl _, Int.le_refl _, Int.emod_one _⟩
theorem mem_map1 (zs : List Int) (r : Int) : memB (zs.map one1) r = decide (r ∈ zs) := by
  induction zs with
  | nil => simp [memB_nil]
  | cons z zs ih => rw [List.map_cons, memB_cons, ih, in_one1, Bool.eq_iff_iff]; simp
theorem isB_of (zs : List Int) (n r : Int) : isB ⟨ofA zs, ofB zs, n⟩ r = decide (r ∈ zs) := by
  unfold isB ofA ofB
  simp only [mem_map1]
  rw [Bool.eq_iff_iff]
  simp only [Bool.or_eq_true, decide_eq_true_eq, List.mem_filter]
  constructor
  · rintro (⟨h, _⟩ | ⟨h, _⟩) <;> exact h
  · intro h
    by_cases c : r < 65536
    · exact .inl ⟨h, c⟩
    · exact .inr ⟨h, by omega⟩
theorem srt_map1 {H : Int} : ∀ {zs : List Int} {L : Int}, Asc zs → (∀ z ∈ zs, L ≤ z ∧ z ≤ H) → SrtR H L (zs.map one1) := by
  intro zs
  induction zs with
  | nil => intro L _ _; trivial
  | cons z zs ih =>
    intro L ha hb
    obtain ⟨h1, h2⟩ := List.pairwise_cons.1 ha
    have hz := hb z (by simp)
    exact ⟨by simp [one1], Int.le_refl _, hz.1, hz.2, ih h2 fun y hy => ⟨by have := h1 y hy; simp only [one1]; omega, (hb y (by simp [hy])).2⟩⟩
theorem srt_ofA {zs : List Int} (ha : Asc zs) (hc : Cps zs) : Srt 0 65535 (ofA zs) :=
  (srt_map1 (ha.filter _) fun z hz => by
    obtain ⟨h1, h2⟩ := List.mem_filter.1 hz
    have := hc z h1
    simp at h2
    omega).srt
theorem srt_ofB {zs : List Int} (ha : Asc zs) (hc : Cps zs) : Srt 65536 1114111 (ofB zs) :=
  (srt_map1 (ha.filter _) fun z hz => by
    obtain ⟨h1, h2⟩ := List.mem_filter.1 hz
    have := hc z h1
    simp at h2
    omega).srt
theorem ofA_le (zs : List Int) : (ofA zs).length ≤ zs.length := by unfold ofA; rw [List.length_map]; exact List.length_filter_le _ _
theorem ofB_le (zs : List Int) : (ofB zs).length ≤ zs.length := by unfold ofB; rw [List.length_map]; exact List.length_filter_le _ _
theorem ofA_cons_lt {z : Int} (zs : List Int) (h : z < 65536) : ofA (z :: zs) = one1 z :: ofA zs := by unfold ofA; rw [List.filter_cons_of_pos (by simpa using h)]; rfl
theorem ofA_cons_ge {z : Int} (zs : List Int) (h : 65536 ≤ z) : ofA (z :: zs) = ofA zs := by unfold ofA; rw [List.filter_cons_of_neg (by simp; omega)]
theorem ofB_cons_lt {z : Int} (zs : List Int) (h : z < 65536) : ofB (z :: zs) = ofB zs := by unfold ofB; rw [List.filter_cons_of_neg (by simp; omega)]
theorem ofB_cons_ge {z : Int} (zs : List Int) (h : 65536 ≤ z) : ofB (z :: zs) = one1 z :: ofB zs := by unfold ofB; rw [List.filter_cons_of_pos (by simpa using h)]; rfl

/-- The numbers from n on, a stride apart, up to the end. -/
def mems (hi st n : Int) : List Int := if h : n ≤ hi ∧ 1 ≤ st then n :: mems hi st (n + st) else []
  termination_by (hi + 1 - n).toNat
  decreasing_by omega
theorem mems_le {hi st n : Int} (h : n ≤ hi) (h1 : 1 ≤ st) : mems hi st n = n :: mems hi st (n + st) := by rw [mems, dif_pos ⟨h, h1⟩]
theorem mems_gt {hi st n : Int} (h : hi < n) : mems hi st n = [] := by rw [mems, dif_neg (by omega)]
theorem mem_mems {hi st r : Int} (h1 : 1 ≤ st) : ∀ (k : Nat) (n : Int), (hi + 1 - n).toNat ≤ k → (r ∈ mems hi st n ↔ n ≤ r ∧ r ≤ hi ∧ (r - n) % st = 0) := by
  intro k
  induction k with
  | zero =>
    intro n hk
    rw [mems_gt (by omega)]
    constructor
    · intro h; cases h
    · intro h; omega
  | succ k ih =>
    intro n hk
    by_cases hn : n ≤ hi
    · rw [mems_le hn h1, List.mem_cons, ih (n + st) (by omega)]
      constructor
      · rintro (rfl | ⟨a, b, c⟩)
        · exact ⟨Int.le_refl _, hn, by simp⟩
        · refine ⟨by omega, b, ?_⟩
          rw [show r - n = (r - (n + st)) + st from by omega, Int.add_emod_right]
          exact c
      · rintro ⟨a, b, c⟩
        by_cases hr : r = n
        · exact .inl hr
        · refine .inr ⟨?_, b, ?_⟩
          · have := mod_apart (x := 0) (y := r - n) (s := st) (by simp) c (by omega)
            omega
          · rw [show r - (n + st) = (r - n) - st from by omega]
            exact Int.emod_eq_zero_of_dvd (Int.dvd_sub (Int.dvd_of_emod_eq_zero c) (Int.dvd_refl _))
    · rw [mems_gt (by omega)]
      constructor
      · intro h; cases h
      · intro h; omega
theorem mem_memsI {x : Rg} (h1 : 1 ≤ x.st) (r : Int) : r ∈ mems x.hi x.st x.lo ↔ inB x r = true := by
  rw [mem_mems h1 _ _ (Nat.le_refl _), inB_true]
theorem asc_mems {hi st : Int} (h1 : 1 ≤ st) : ∀ (k : Nat) (n : Int), (hi + 1 - n).toNat ≤ k → Asc (mems hi st n) := by
  intro k
  induction k with
  | zero => intro n hk; rw [mems_gt (by omega)]; exact List.Pairwise.nil
  | succ k ih =>
    intro n hk
    by_cases hn : n ≤ hi
    · rw [mems_le hn h1]
      refine List.pairwise_cons.2 ⟨fun y hy => ?_, ih _ (by omega)⟩
      have := (mem_mems h1 _ _ (Nat.le_refl _)).1 hy
      omega
    · rw [mems_gt (by omega)]; exact List.Pairwise.nil
theorem length_mems {hi st : Int} (h1 : 1 ≤ st) : ∀ (k : Nat) (n : Int), (hi + 1 - n).toNat ≤ k → (mems hi st n).length ≤ k := by
  intro k
  induction k with
  | zero => intro n hk; rw [mems_gt (by omega)]; simp
  | succ k ih =>
    intro n hk
    by_cases hn : n ≤ hi
    · rw [mems_le hn h1, List.length_cons]
      have := ih (n + st) (by omega)
      omega
    · rw [mems_gt (by omega)]; simp
/-- How many numbers a range has. -/
theorem count_mems {hi st : Int} (h1 : 1 ≤ st) : ∀ (k : Nat) (n : Int), (hi + 1 - n).toNat ≤ k → n ≤ hi → ((mems hi st n).length : Int) = (hi - n) / st + 1 := by
  intro k
  induction k with
  | zero => intro n hk hn; omega
  | succ k ih =>
    intro n hk hn
    rw [mems_le hn h1, List.length_cons]
    by_cases hc : n + st ≤ hi
    · have := ih (n + st) (by omega) hc
      have e : (hi - n) / st = (hi - (n + st)) / st + 1 := by
        rw [show hi - n = (hi - (n + st)) + 1 * st from by omega, Int.add_mul_ediv_right _ _ (by omega)]
      rw [e]
      omega
    · rw [mems_gt (by omega), Int.ediv_eq_zero_of_lt (by omega) (by omega)]
      rfl
/-- The numbers of a list of ranges. -/
def membersL (l : List Rg) : List Int := l.flatMap fun x => mems x.hi x.st x.lo
theorem membersL_cons (x : Rg) (l : List Rg) : membersL (x :: l) = mems x.hi x.st x.lo ++ membersL l := rfl
theorem mem_membersL {l : List Rg} (h : Stp l) (r : Int) : r ∈ membersL l ↔ memB l r = true := by
  induction l with
  | nil => simp [membersL, memB_nil]
  | cons x l ih => rw [membersL_cons, List.mem_append, ih h.tail, mem_memsI h.head.1, memB_cons, Bool.or_eq_true]
theorem asc_membersL {L H : Int} {l : List Rg} (hs : Srt L H l) (h : Stp l) : Asc (membersL l) := by
  induction l generalizing L with
  | nil => exact List.Pairwise.nil
  | cons x l ih =>
    rw [membersL_cons]
    refine List.pairwise_append.2 ⟨asc_mems h.head.1 _ _ (Nat.le_refl _), ih hs.tail h.tail, fun a ha b hb => ?_⟩
    have h1 := (mem_mems h.head.1 _ _ (Nat.le_refl _)).1 ha
    have h2 := (mem_membersL h.tail b).1 hb
    rcases Int.lt_or_le b (x.hi + 1) with c | c
    · rw [mem_neg hs.tail c] at h2; cases h2
    · omega
theorem in_membersL {L H : Int} {l : List Rg} (hs : Srt L H l) (h : Stp l) : ∀ z ∈ membersL l, L ≤ z ∧ z ≤ H := fun z hz => by
  have h2 := (mem_in hs ((mem_membersL h z).1 hz)).2.2.2
  exact h2
theorem length_membersL {l : List Rg} (h : Stp l) (hb : ∀ x ∈ l, 0 ≤ x.lo ∧ x.hi ≤ 1114111) : (membersL l).length ≤ l.length * 1114112 := by
  induction l with
  | nil => simp [membersL]
  | cons x l ih =>
    rw [membersL_cons, List.length_append, List.length_cons]
    have h1 := ih h.tail fun y hy => hb y (by simp [hy])
    have h2 := hb x (by simp)
    have h3 := length_mems (hi := x.hi) (st := x.st) h.head.1 1114112 x.lo (by omega)
    omega
/-- The numbers of a table. -/
theorem asc_members {a b : List Rg} (va : Srt 0 65535 a) (vb : Srt 65536 1114111 b) (sa : Stp a) (sb : Stp b) : Asc (membersL a ++ membersL b) :=
  List.pairwise_append.2 ⟨asc_membersL va sa, asc_membersL vb sb, fun x hx y hy => by
    have := in_membersL va sa x hx
    have := in_membersL vb sb y hy
    omega⟩
theorem cps_members {a b : List Rg} (va : Srt 0 65535 a) (vb : Srt 65536 1114111 b) (sa : Stp a) (sb : Stp b) : Cps (membersL a ++ membersL b) := fun z hz => by
  rcases List.mem_append.1 hz with h | h
  · have := in_membersL va sa z h; omega
  · have := in_membersL vb sb z h; omega
theorem isB_members {a b : List Rg} (sa : Stp a) (sb : Stp b) (n r : Int) : decide (r ∈ membersL a ++ membersL b) = isB ⟨a, b, n⟩ r := by
  rw [Bool.eq_iff_iff]
  simp only [decide_eq_true_eq, List.mem_append, mem_membersL sa, mem_membersL sb, isB, Bool.or_eq_true]
end Go.Proofs.Ytnhmacmpobkdoaa
