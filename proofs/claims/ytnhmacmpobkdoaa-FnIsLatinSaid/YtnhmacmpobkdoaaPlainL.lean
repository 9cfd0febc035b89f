/- Plain facts on how many numbers from 0 to 255 lie in the ranges that begin there. No program occurs here. -/
import Derived.Test.YtnhmacmpobkdoaaPlainF
namespace Go.Proofs.Ytnhmacmpobkdoaa
set_option linter.unusedVariables false

/-- How many of the numbers below k have a property. -/
def cntB (f : Int → Bool) : Nat → Int
  | 0 => 0
  | k + 1 => cntB f k + if f (k : Int) = true then 1 else 0
theorem cntB_yes {f : Int → Bool} {k : Nat} (h : f (k : Int) = true) : cntB f (k + 1) = cntB f k + 1 := by simp [cntB, h]
theorem cntB_no {f : Int → Bool} {k : Nat} (h : f (k : Int) = false) : cntB f (k + 1) = cntB f k := by simp [cntB, h]
theorem cntB_bound (f : Int → Bool) (k : Nat) : 0 ≤ cntB f k ∧ cntB f k ≤ k := by
  induction k with
  | zero => simp [cntB]
  | succ k ih => unfold cntB; split <;> omega
theorem cntB_congr {f g : Int → Bool} : ∀ {k : Nat}, (∀ j : Int, 0 ≤ j → j < k → f j = g j) → cntB f k = cntB g k := by
  intro k
  induction k with
  | zero => intro _; rfl
  | succ k ih =>
    intro h
    unfold cntB
    rw [ih fun j h0 h1 => h j h0 (by omega), h k (by omega) (by omega)]
theorem cntB_or {f g : Int → Bool} (h : ∀ j, f j = true → g j = false) : ∀ k : Nat, cntB (fun j => f j || g j) k = cntB f k + cntB g k := by
  intro k
  induction k with
  | zero => rfl
  | succ k ih =>
    unfold cntB
    rw [ih]
    cases hf : f (k : Int)
    · cases hg : g (k : Int) <;> simp <;> omega
    · simp [h _ hf]; omega
theorem cntB_one {z : Int} (h0 : 0 ≤ z) : ∀ k : Nat, cntB (fun j => decide (j = z)) k = if z < k then 1 else 0 := by
  intro k
  induction k with
  | zero => rw [if_neg (by omega)]; rfl
  | succ k ih =>
    unfold cntB
    rw [ih]
    by_cases c : (k : Int) = z
    · rw [if_neg (by omega), if_pos (by simpa using c), if_pos (by omega)]; rfl
    · rw [if_neg (c := decide ((k : Int) = z) = true) (by simpa using c)]
      by_cases c' : z < k
      · rw [if_pos c', if_pos (by omega)]; rfl
      · rw [if_neg c', if_neg (by omega)]; rfl
/-- An ascending list holds as many numbers as are in it. -/
theorem cntB_asc {k : Nat} : ∀ {zs : List Int}, Asc zs → (∀ z ∈ zs, 0 ≤ z ∧ z < k) → cntB (fun j => decide (j ∈ zs)) k = zs.length := by
  intro zs
  induction zs with
  | nil =>
    intro _ _
    have : ∀ m : Nat, cntB (fun j => decide (j ∈ ([] : List Int))) m = 0 := by
      intro m
      induction m with
      | zero => rfl
      | succ m ih => rw [cntB_no (by simp), ih]
    simpa using this k
  | cons z zs ih =>
    intro ha hb
    obtain ⟨h1, h2⟩ := List.pairwise_cons.1 ha
    have hz := hb z (by simp)
    have e : cntB (fun j => decide (j ∈ z :: zs)) k = cntB (fun j => (fun j => decide (j = z)) j || (fun j => decide (j ∈ zs)) j) k :=
      cntB_congr fun j _ _ => by rw [Bool.eq_iff_iff]; simp
    rw [e, cntB_or (fun j hj => by
      have hj' : j = z := by simpa using hj
      subst hj'
      simp only [decide_eq_false_iff_not]
      intro hm
      have := h1 _ hm
      omega), cntB_one hz.1, if_pos hz.2, ih h2 fun y hy => hb y (by simp [hy]), List.length_cons]
    omega

/-- A range up to 255. -/
def low1 (x : Rg) : Rg := ⟨x.lo, if x.hi < 255 then x.hi else 255, x.st⟩
def want1 (x : Rg) : Int := ((if x.hi < 255 then x.hi else 255) - x.lo) / x.st + 1
/-- How many numbers up to 255 the ranges have, told by their strides. -/
def wantL : List Rg → Int
  | [] => 0
  | x :: l => want1 x + wantL l
theorem wantL_members {l : List Rg} (h : Stp l) (hl : ∀ x ∈ l, x.lo ≤ 255) : ((membersL (l.map low1)).length : Int) = wantL l := by
  induction l with
  | nil => rfl
  | cons x l ih =>
    have h1 := hl x (by simp)
    have h2 := h.head
    rw [List.map_cons, membersL_cons, List.length_append, wantL, ← ih h.tail fun y hy => hl y (by simp [hy])]
    have := count_mems (hi := (low1 x).hi) (st := (low1 x).st) h2.1 _ (low1 x).lo (Nat.le_refl _) (by simp only [low1]; split <;> omega)
    simp only [Int.natCast_add]
    rw [this]
    rfl
theorem srt_low {H : Int} : ∀ {l : List Rg} {L : Int}, SrtR H L l → (∀ x ∈ l, x.lo ≤ 255) → SrtR H L (l.map low1) := by
  intro l
  induction l with
  | nil => intro L _ _; trivial
  | cons x l ih =>
    intro L ⟨h0, h1, h2, h3, h4⟩ hl
    have g := hl x (by simp)
    have e : (low1 x).hi ≤ x.hi := by simp only [low1]; split <;> omega
    have e' : x.lo ≤ (low1 x).hi := by simp only [low1]; split <;> omega
    exact ⟨h0, e', h2, by omega, (ih h4 fun y hy => hl y (by simp [hy])).le (by omega)⟩
theorem stp_low {l : List Rg} (h : Stp l) (hl : ∀ x ∈ l, x.lo ≤ 255) : Stp (l.map low1) := fun y hy => by
  obtain ⟨x, hx, rfl⟩ := List.mem_map.1 hy
  have h1 := h x hx
  have h2 := hl x hx
  exact ⟨h1.1, by simp only [low1]; split <;> omega⟩
theorem mem_low {l : List Rg} {r : Int} (hr : r ≤ 255) : memB (l.map low1) r = memB l r := by
  induction l with
  | nil => rfl
  | cons x l ih =>
    rw [List.map_cons, memB_cons, memB_cons, ih]
    congr 1
    rw [Bool.eq_iff_iff, inB_true, inB_true]
    simp only [low1]
    constructor
    · rintro ⟨p, q, s⟩
      refine ⟨p, ?_, s⟩
      split at q <;> omega
    · rintro ⟨p, q, s⟩
      refine ⟨p, ?_, s⟩
      split <;> omega
theorem low_members {l : List Rg} (h : Stp l) (hl : ∀ x ∈ l, x.lo ≤ 255) : ∀ z ∈ membersL (l.map low1), z ≤ 255 := fun z hz => by
  have := (mem_membersL (stp_low h hl) z).1 hz
  rw [memB_true] at this
  obtain ⟨y, hy, hi⟩ := this
  obtain ⟨x, hx, rfl⟩ := List.mem_map.1 hy
  rw [inB_true] at hi
  have h2 := hi.2.1
  simp only [low1] at h2
  split at h2 <;> omega
/-- The law: of the numbers from 0 to 255 as many are in the ranges as these have by their strides. -/
theorem cnt_want {l : List Rg} (hs : Srt 0 65535 l) (h : Stp l) (hl : ∀ x ∈ l, x.lo ≤ 255) : cntB (memB l) 256 = wantL l := by
  have hs' := (srt_low hs.srtR hl).srt
  have h' := stp_low h hl
  rw [← wantL_members h hl, ← cntB_asc (k := 256) (asc_membersL hs' h') fun z hz => ⟨(in_membersL hs' h' z hz).1, by have := low_members h hl z hz; omega⟩]
  refine cntB_congr fun j h0 h1 => ?_
  rw [Bool.eq_iff_iff, decide_eq_true_eq, mem_membersL h', mem_low (by omega)]
theorem wantL_bound {l : List Rg} (hs : Srt 0 65535 l) (h : Stp l) (hl : ∀ x ∈ l, x.lo ≤ 255) : 0 ≤ wantL l ∧ wantL l ≤ 256 := by
  rw [← cnt_want hs h hl]; exact cntB_bound _ _
theorem want1_bound {x : Rg} (h0 : 0 ≤ x.lo) (h : 1 ≤ x.st ∧ x.lo ≤ x.hi) (hl : x.lo ≤ 255) : 1 ≤ want1 x ∧ want1 x ≤ 256 := by
  have key : ∀ m : Int, x.lo ≤ m → m ≤ 255 → 1 ≤ (m - x.lo) / x.st + 1 ∧ (m - x.lo) / x.st + 1 ≤ 256 := fun m h1 h2 => by
    have g1 : 0 ≤ (m - x.lo) / x.st := Int.ediv_nonneg (by omega) (by omega)
    have g2 : (m - x.lo) / x.st ≤ m - x.lo := Int.ediv_le_self _ (by omega)
    omega
  exact key _ (by split <;> omega) (by split <;> omega)
theorem want1_eq (x : Rg) : ((if 255 < x.hi then 255 else x.hi) - x.lo) / x.st = want1 x - 1 := by
  have e : (if 255 < x.hi then (255 : Int) else x.hi) = if x.hi < 255 then x.hi else 255 := by
    split <;> split <;> omega
  rw [e, want1]
  omega
/-- One more range is counted. -/
theorem want_step {l : List Rg} {i : Nat} {x : Rg} {z : Int} (h : z + wantL (l.drop i) = wantL l) (hi : i < l.length) (hx : l.getD i ⟨0, 0, 0⟩ = x) : (z + want1 x) + wantL (l.drop (i + 1)) = wantL l := by
  rw [drop_cons hi hx, wantL] at h
  omega
theorem want_end {l : List Rg} {i : Nat} {z : Int} (h : z + wantL (l.drop i) = wantL l) (hi : i ≤ l.length) (hn : ¬ i < l.length) : z = wantL l := by
  rw [show i = l.length from by omega, List.drop_length, wantL] at h
  omega

/-- The first k ranges begin at 255 or before, and the next one, if there is one, behind it. -/
theorem take_srt {L H : Int} {l : List Rg} (h : Srt L H l) (k : Nat) : Srt L H (l.take k) := fun i hi => by
  have hi' : i < k ∧ i < l.length := by rw [List.length_take] at hi; omega
  have e : ∀ j, j ≤ i → (l.take k).getD j ⟨0, 0, 0⟩ = l.getD j ⟨0, 0, 0⟩ := fun j hj => by
    rw [List.getD_eq_getElem?_getD, List.getD_eq_getElem?_getD, List.getElem?_take_of_lt (by omega)]
  have := h i hi'.2
  unfold Ok1 at this ⊢
  rw [e i (Nat.le_refl _), e (i - 1) (by omega)]
  exact this
theorem take_mem {L H : Int} {l : List Rg} (h : Srt L H l) {k : Nat} (hk : k < l.length → 255 < (l.getD k ⟨0, 0, 0⟩).lo) {r : Int} (hr : r ≤ 255) : memB (l.take k) r = memB l r := by
  have e : memB l r = (memB (l.take k) r || memB (l.drop k) r) := by rw [← memB_append, List.take_append_drop]
  have e2 : memB (l.drop k) r = false := by
    rw [memB_false]
    intro x hx
    obtain ⟨j, hj, rfl⟩ := mem_getD hx
    have hj' : k + j < l.length := by rw [List.length_drop] at hj; omega
    have e3 : (l.drop k).getD j ⟨0, 0, 0⟩ = l.getD (k + j) ⟨0, 0, 0⟩ := by
      rw [List.getD_eq_getElem?_getD, List.getD_eq_getElem?_getD, List.getElem?_drop]
    rw [e3]
    refine inB_lo ?_
    have h1 := hk (by omega)
    rcases Nat.eq_zero_or_pos j with h0 | h0
    · subst h0; rw [Nat.add_zero]; omega
    · have := h.up (i := k) (j := k + j) (by omega) hj'
      have := (h k (by omega)).2.1
      omega
  rw [e, e2, Bool.or_false]
/-- What the law's first loop has gathered: the ranges that begin at 255 or before. -/
def FewL (a l : List Rg) (k : Nat) : Prop := l = a.take k ∧ ∀ x ∈ l, x.lo ≤ 255
theorem FewL.nil (a : List Rg) : FewL a [] 0 := ⟨rfl, fun x hx => by cases hx⟩
theorem FewL.snoc {a l : List Rg} {k : Nat} {x : Rg} (h : FewL a l k) (hk : k < a.length) (hx : a.getD k ⟨0, 0, 0⟩ = x) (hl : x.lo ≤ 255) : FewL a (l ++ [x]) (k + 1) := by
  refine ⟨?_, fun y hy => ?_⟩
  · rw [List.take_succ_eq_append_getElem hk, ← h.1]
    rw [List.getD_eq_getElem?_getD, List.getElem?_eq_getElem hk] at hx
    simp at hx
    rw [hx]
  · rcases List.mem_append.1 hy with hy | hy
    · exact h.2 y hy
    · rw [List.mem_singleton] at hy
      subst hy; exact hl
theorem FewL.srt {a l : List Rg} {k : Nat} (h : FewL a l k) (hs : Srt 0 65535 a) : Srt 0 65535 l := h.1 ▸ take_srt hs k
theorem FewL.stp {a l : List Rg} {k : Nat} (h : FewL a l k) (hs : Stp a) : Stp l := fun x hx => hs x (List.mem_of_mem_take (h.1 ▸ hx))
/-- Up to 255 the table says what the few ranges say. -/
theorem FewL.is {a b l : List Rg} {k : Nat} (h : FewL a l k) (hs : Srt 0 65535 a) (hb : Srt 65536 1114111 b) (hk : k < a.length → 255 < (a.getD k ⟨0, 0, 0⟩).lo) (n : Int) {r : Int} (hr : r ≤ 255) : isB ⟨a, b, n⟩ r = memB l r := by
  unfold isB
  simp only
  rw [mem_neg hb (by omega), Bool.or_false, h.1, take_mem hs hk hr]
theorem isB_alone (l : List Rg) (n r : Int) : isB ⟨l, [], n⟩ r = memB l r := by unfold isB; simp [memB_nil]
end Go.Proofs.Ytnhmacmpobkdoaa
