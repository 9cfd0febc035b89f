/- A made table whose ranges are written in place. -/
import Derived.Test.YtnhmacmpobkdoaaFill
import Derived.Test.YtnhmacmpobkdoaaDrawG
namespace Go.Proofs.Ytnhmacmpobkdoaa
open Go.RowKit
set_option linter.unusedVariables false

/-- The first i ranges turned by f, the others as they were. -/
def mixL (f : Rg → Rg) (a : List Rg) (i : Nat) : List Rg := (a.take i).map f ++ a.drop i
theorem mixL_length (f : Rg → Rg) (a : List Rg) (i : Nat) : (mixL f a i).length = a.length := by
  unfold mixL
  rw [List.length_append, List.length_map, List.length_take, List.length_drop]
  omega
theorem mixL_zero (f : Rg → Rg) (a : List Rg) : mixL f a 0 = a := by simp [mixL]
theorem mixL_end (f : Rg → Rg) {a : List Rg} {i : Nat} (hi : i ≤ a.length) (hn : ¬ i < a.length) : mixL f a i = a.map f := by
  have : i = a.length := by omega
  subst this
  simp [mixL]
theorem mixL_at (f : Rg → Rg) {a : List Rg} {i : Nat} (hi : i < a.length) : (mixL f a i)[i]? = a[i]? := by
  unfold mixL
  have h : ((a.take i).map f).length = i := by rw [List.length_map, List.length_take]; omega
  rw [List.getElem?_append_right (by omega), h, Nat.sub_self, List.getElem?_drop, Nat.add_zero]
theorem mixL_set (f : Rg → Rg) {a : List Rg} {i : Nat} {x : Rg} (hx : a[i]? = some x) : (mixL f a i).set i (f x) = mixL f a (i + 1) := by
  obtain ⟨hi, rfl⟩ := List.getElem?_eq_some_iff.1 hx
  unfold mixL
  have h : ((a.take i).map f).length = i := by rw [List.length_map, List.length_take]; omega
  rw [List.set_append_right _ _ (by omega), h, Nat.sub_self, List.drop_eq_getElem_cons hi, List.set_cons_zero, List.take_succ_eq_append_getElem hi, List.map_append]
  simp

def MkN (w : World) (T Z X : Nat) (bt bz : Array Value) (A : Option Addr) (c : Nat) (l : List Rg) (A' : Option Addr) (c' : Nat) (m : List Rg) (n : Int) (wr : World) : Prop :=
  (Bk wr T 27 bt ∧ Bk wr Z 27 bz ∧ T ≠ X ∧ Z ≠ X ∧ w.heap.size ≤ Z ∧ w.heap.size ≤ X) ∧ Bk wr X 27 #[.slice A l.length c, .slice A' m.length c', .int .i64 n] ∧
    wr.ownsRow w.heap.size 39 3 (.slice A l.length c) l.length (cellsL .u16 l) ∧ wr.ownsRow w.heap.size 65 3 (.slice A' m.length c') m.length (cellsL .u32 m) ∧ Wf 65536 l ∧ Wf 4294967296 m ∧ Below w.heap.size w wr
section
variable {w wr w1 : World} {T Z X g : Nat} {bt bz : Array Value} {A A' : Option Addr} {c c' : Nat} {l m : List Rg} {n : Int}
theorem MkN.of (h : Mk w T Z X bt bz A c l A' c' m wr) : MkN w T Z X bt bz A c l A' c' m 0 wr := h
theorem MkN.to (h : MkN w T Z X bt bz A c l A' c' m 0 wr) : Mk w T Z X bt bz A c l A' c' m wr := h
theorem MkN.bel (h : MkN w T Z X bt bz A c l A' c' m n wr) : Below w.heap.size w wr := h.2.2.2.2.2.2
theorem MkN.bkT (h : MkN w T Z X bt bz A c l A' c' m n wr) : Bk wr T 27 bt := h.1.1
theorem MkN.bkZ (h : MkN w T Z X bt bz A c l A' c' m n wr) : Bk wr Z 27 bz := h.1.2.1
theorem MkN.bkX (h : MkN w T Z X bt bz A c l A' c' m n wr) : Bk wr X 27 #[.slice A l.length c, .slice A' m.length c', .int .i64 n] := h.2.1
theorem MkN.below (h : MkN w T Z X bt bz A c l A' c' m n wr) (hb : Below wr.heap.size wr w1) : MkN w T Z X bt bz A c l A' c' m n w1 :=
  ⟨⟨h.bkT.below hb h.bkT.lt, h.bkZ.below hb h.bkZ.lt, h.1.2.2⟩, h.bkX.below hb h.bkX.lt, own_below h.2.2.1 hb, own_below h.2.2.2.1 hb, h.2.2.2.2.1, h.2.2.2.2.2.1, h.bel.trans (hb.mono h.bel.size)⟩
theorem MkN.alloc (h : MkN w T Z X bt bz A c l A' c' m n wr) (o : Obj) : MkN w T Z X bt bz A c l A' c' m n (wr.alloc o) := h.below ((Below.refl _ _).alloc (Nat.le_refl _) o)
theorem MkN.drew (h : MkN w T Z X bt bz A c l A' c' m n wr) : MkN w T Z X bt bz A c l A' c' m n wr.drew := h.below (Below.refl _ _).drew
theorem MkN.form16 (h : MkN w T Z X bt bz A c l A' c' m n wr) (hl : 0 < l.length) : ∃ g, A = some ⟨g, 0, none⟩ ∧ g < wr.heap.size ∧ T ≠ g ∧ Z ≠ g ∧ X ≠ g := by
  obtain ⟨g, cap, hv, _, hlt⟩ := h.2.2.1.form hl
  obtain rfl : A = some ⟨g, 0, none⟩ := by injection hv
  exact ⟨g, rfl, hlt, fun e => own_bk h.2.2.1 h.bkT (by decide) (by rw [e]; rfl), fun e => own_bk h.2.2.1 h.bkZ (by decide) (by rw [e]; rfl), fun e => own_bk h.2.2.1 h.bkX (by decide) (by rw [e]; rfl)⟩
theorem MkN.form32 (h : MkN w T Z X bt bz A c l A' c' m n wr) (hl : 0 < m.length) : ∃ g, A' = some ⟨g, 0, none⟩ ∧ g < wr.heap.size ∧ T ≠ g ∧ Z ≠ g ∧ X ≠ g := by
  obtain ⟨g, cap, hv, _, hlt⟩ := h.2.2.2.1.form hl
  obtain rfl : A' = some ⟨g, 0, none⟩ := by injection hv
  exact ⟨g, rfl, hlt, fun e => own_bk h.2.2.2.1 h.bkT (by decide) (by rw [e]; rfl), fun e => own_bk h.2.2.2.1 h.bkZ (by decide) (by rw [e]; rfl), fun e => own_bk h.2.2.2.1 h.bkX (by decide) (by rw [e]; rfl)⟩
theorem MkN.at16 {i : Nat} {x : Rg} (h : MkN w T Z X bt bz (some ⟨g, 0, none⟩) c l A' c' m n wr) (hx : l[i]? = some x) :
    wr.cell? ⟨g, i * 3, none⟩ = some (.int .u16 x.lo) ∧ wr.cell? ⟨g, i * 3 + 1, none⟩ = some (.int .u16 x.hi) ∧ wr.cell? ⟨g, i * 3 + 2, none⟩ = some (.int .u16 x.st) ∧ (∀ j, wr.frozen? ⟨g, j, none⟩ = false) ∧
      0 ≤ x.lo ∧ x.lo < 65536 ∧ 0 ≤ x.hi ∧ x.hi < 65536 ∧ 0 ≤ x.st ∧ x.st < 65536 := by
  obtain ⟨h1, h2, h3⟩ := cellsL_at .u16 l i _ hx
  have hm := (List.getElem?_eq_some_iff.1 hx).1
  refine ⟨?_, ?_, ?_, fun j => h.2.2.1.frozenAt j, h.2.2.2.2.1 _ (List.mem_of_getElem? hx)⟩
  · rw [h.2.2.1.cellAt _ (by omega)]; exact h1
  · rw [h.2.2.1.cellAt _ (by omega)]; exact h2
  · rw [h.2.2.1.cellAt _ (by omega)]; exact h3
theorem MkN.at32 {i : Nat} {x : Rg} (h : MkN w T Z X bt bz A c l (some ⟨g, 0, none⟩) c' m n wr) (hx : m[i]? = some x) :
    wr.cell? ⟨g, i * 3, none⟩ = some (.int .u32 x.lo) ∧ wr.cell? ⟨g, i * 3 + 1, none⟩ = some (.int .u32 x.hi) ∧ wr.cell? ⟨g, i * 3 + 2, none⟩ = some (.int .u32 x.st) ∧ (∀ j, wr.frozen? ⟨g, j, none⟩ = false) ∧
      0 ≤ x.lo ∧ x.lo < 4294967296 ∧ 0 ≤ x.hi ∧ x.hi < 4294967296 ∧ 0 ≤ x.st ∧ x.st < 4294967296 := by
  obtain ⟨h1, h2, h3⟩ := cellsL_at .u32 m i _ hx
  have hm := (List.getElem?_eq_some_iff.1 hx).1
  refine ⟨?_, ?_, ?_, fun j => h.2.2.2.1.frozenAt j, h.2.2.2.2.2.1 _ (List.mem_of_getElem? hx)⟩
  · rw [h.2.2.2.1.cellAt _ (by omega)]; exact h1
  · rw [h.2.2.2.1.cellAt _ (by omega)]; exact h2
  · rw [h.2.2.2.1.cellAt _ (by omega)]; exact h3
theorem MkN.set16 {i j : Nat} {x : Rg} {u : Value} (h : MkN w T Z X bt bz (some ⟨g, 0, none⟩) c l A' c' m n wr) (hc : (cellsL .u16 l).set j u = cellsL .u16 (l.set i x)) (hx : 0 ≤ x.lo ∧ x.lo < 65536 ∧ 0 ≤ x.hi ∧ x.hi < 65536 ∧ 0 ≤ x.st ∧ x.st < 65536) :
    MkN w T Z X bt bz (some ⟨g, 0, none⟩) c (l.set i x) A' c' m n (wr.setCell ⟨g, j, none⟩ u) := by
  obtain ⟨h1, h2⟩ := h.2.2.1.stored j u
  rw [hc] at h1
  have hw : Below w.heap.size w (wr.setCell ⟨g, j, none⟩ u) := h.bel.grown h2 h.bel.size (fun k hk => own_ge h.2.2.1 k (by rw [← hk]; rfl))
  refine ⟨⟨h.bkT.grown h2 (own_bk h.2.2.1 h.bkT (by decide)), h.bkZ.grown h2 (own_bk h.2.2.1 h.bkZ (by decide)), h.1.2.2⟩, ?_, by rw [List.length_set]; exact h1, h.2.2.2.1.kept h2 (own_apart h.2.2.2.1 h.2.2.1 (by decide)), wf_set h.2.2.2.2.1 i hx, h.2.2.2.2.2.1, hw⟩
  rw [List.length_set]; exact h.bkX.grown h2 (own_bk h.2.2.1 h.bkX (by decide))
theorem MkN.set32 {i j : Nat} {x : Rg} {u : Value} (h : MkN w T Z X bt bz A c l (some ⟨g, 0, none⟩) c' m n wr) (hc : (cellsL .u32 m).set j u = cellsL .u32 (m.set i x)) (hx : 0 ≤ x.lo ∧ x.lo < 4294967296 ∧ 0 ≤ x.hi ∧ x.hi < 4294967296 ∧ 0 ≤ x.st ∧ x.st < 4294967296) :
    MkN w T Z X bt bz A c l (some ⟨g, 0, none⟩) c' (m.set i x) n (wr.setCell ⟨g, j, none⟩ u) := by
  obtain ⟨h1, h2⟩ := h.2.2.2.1.stored j u
  rw [hc] at h1
  have hw : Below w.heap.size w (wr.setCell ⟨g, j, none⟩ u) := h.bel.grown h2 h.bel.size (fun k hk => own_ge h.2.2.2.1 k (by rw [← hk]; rfl))
  refine ⟨⟨h.bkT.grown h2 (own_bk h.2.2.2.1 h.bkT (by decide)), h.bkZ.grown h2 (own_bk h.2.2.2.1 h.bkZ (by decide)), h.1.2.2⟩, ?_, h.2.2.1.kept h2 (own_apart h.2.2.1 h.2.2.2.1 (by decide)), by rw [List.length_set]; exact h1, h.2.2.2.2.1, wf_set h.2.2.2.2.2.1 i hx, hw⟩
  rw [List.length_set]; exact h.bkX.grown h2 (own_bk h.2.2.2.1 h.bkX (by decide))
/-- The end: the table is copied from its box into the result. -/
theorem MkN.ret {v0 v1 v2 : Value} {L M : Nat} (h : MkN w T Z X bt #[v0, v1, v2] A c l A' c' m n wr) (hL : l.length = L) (hM : m.length = M) (hn : n = latN l) :
    let W := (((wr.setCell ⟨Z, 0, none⟩ (.slice A L c)).setCell ⟨Z, 1, none⟩ (.slice A' M c')).setCell ⟨Z, 2, none⟩ (.int .i64 n))
    W.cell? ⟨Z, 0, none⟩ = some (.slice A L c) ∧ W.cell? ⟨Z, 1, none⟩ = some (.slice A' M c') ∧ W.cell? ⟨Z, 2, none⟩ = some (.int .i64 n) ∧
      Made w l m (.returned (.agg #[.slice A L c, .slice A' M c', .int .i64 n])) W := by
  subst hL hM
  have o2 := (((Only.refl Z wr).store 0 (.slice A l.length c)).store 1 (.slice A' m.length c')).store 2 (.int .i64 n)
  have hf := ((h.bkZ.set_ 0 (.slice A l.length c)).set_ 1 (.slice A' m.length c')).set_ 2 (.int .i64 n)
  exact ⟨hf.cell 0, hf.cell 1, hf.cell 2, A, c, A', c', by rw [hn], own_only h.2.2.1 h.bkZ (by decide) o2, own_only h.2.2.2.1 h.bkZ (by decide) o2, h.2.2.2.2.1, h.2.2.2.2.2.1, ((h.bel.setCell h.1.2.2.2.2.1 _).setCell h.1.2.2.2.2.1 _).setCell h.1.2.2.2.2.1 _⟩
end
end Go.Proofs.Ytnhmacmpobkdoaa
