/- Lists of tables in memory: as they come in, and as pointers to the library's tables. -/
import Derived.Test.YtnhmacmpobkdoaaTabA
import Derived.Test.YtnhmacmpobkdoaaPlainB
namespace Go.Proofs.Ytnhmacmpobkdoaa
open Go.RowKit
set_option linter.unusedVariables false

/-- The slice at A holds the tables ts, three cells each, below block B; their ranges lie below B, too. -/
def RdT (w : World) (B : Nat) (A : Option Addr) (ts : List Tab) : Prop :=
  (∀ t ∈ ts, t.a.length ≤ 9223372036854775807 ∧ t.b.length ≤ 9223372036854775807) ∧ (0 < ts.length → ∃ b off, A = some ⟨b, off, none⟩ ∧ b < B ∧ ∀ i t, ts[i]? = some t → ∃ A16 c16 A32 c32,
    w.cell? ⟨b, off + i * 3, none⟩ = some (.slice A16 t.a.length c16) ∧ w.cell? ⟨b, off + i * 3 + 1, none⟩ = some (.slice A32 t.b.length c32) ∧ w.cell? ⟨b, off + i * 3 + 2, none⟩ = some (.int .i64 t.n) ∧
      Rd w B .u16 65536 A16 t.a ∧ Rd w B .u32 4294967296 A32 t.b)
section
variable {w w' : World} {B B' : Nat} {A : Option Addr} {ts : List Tab}
theorem RdT.nil : RdT w B A [] := ⟨(fun x hx => by cases hx), (fun h => by simp at h)⟩
theorem RdT.at_ {i : Nat} (h : RdT w B A ts) (hi : i < ts.length) : ∃ b off t A16 c16 A32 c32, A = some ⟨b, off, none⟩ ∧ b < B ∧ ts[i]? = some t ∧
    w.cell? ⟨b, off + i * 3, none⟩ = some (.slice A16 t.a.length c16) ∧ w.cell? ⟨b, off + i * 3 + 1, none⟩ = some (.slice A32 t.b.length c32) ∧ w.cell? ⟨b, off + i * 3 + 2, none⟩ = some (.int .i64 t.n) ∧
      Rd w B .u16 65536 A16 t.a ∧ Rd w B .u32 4294967296 A32 t.b ∧ t.a.length ≤ 9223372036854775807 ∧ t.b.length ≤ 9223372036854775807 := by
  obtain ⟨b, off, e, hb, hc⟩ := h.2 (by omega)
  have hx : ts[i]? = some ts[i] := List.getElem?_eq_getElem hi
  obtain ⟨A16, c16, A32, c32, h0, h1, h2, h3, h4⟩ := hc i _ hx
  obtain ⟨l1, l2⟩ := h.1 _ (List.getElem_mem hi)
  exact ⟨b, off, ts[i], A16, c16, A32, c32, e, hb, hx, h0, h1, h2, h3, h4, l1, l2⟩
theorem RdT.below (h : RdT w B A ts) (hb : Below B w w') : RdT w' B A ts :=
  ⟨h.1, fun hn => by
    obtain ⟨b, off, e, hbB, hc⟩ := h.2 hn
    refine ⟨b, off, e, hbB, fun i t ht => ?_⟩
    obtain ⟨A16, c16, A32, c32, h0, h1, h2, h3, h4⟩ := hc i t ht
    exact ⟨A16, c16, A32, c32, (hb.cell (p := ⟨b, _, none⟩) hbB).trans h0, (hb.cell (p := ⟨b, _, none⟩) hbB).trans h1, (hb.cell (p := ⟨b, _, none⟩) hbB).trans h2, h3.below hb, h4.below hb⟩⟩
theorem RdT.more (h : RdT w B A ts) (hB : B ≤ B') : RdT w B' A ts :=
  ⟨h.1, fun hn => by
    obtain ⟨b, off, e, hbB, hc⟩ := h.2 hn
    refine ⟨b, off, e, by omega, fun i t ht => ?_⟩
    obtain ⟨A16, c16, A32, c32, h0, h1, h2, h3, h4⟩ := hc i t ht
    exact ⟨A16, c16, A32, c32, h0, h1, h2, h3.more hB, h4.more hB⟩⟩
theorem RdT.to (h : RdT w w.heap.size A ts) (hb : Below w.heap.size w w') : RdT w' w'.heap.size A ts := (h.below hb).more hb.size
end

/-- Pointers to the tables ts. -/
def Ptrs (w : World) (base : Nat) (ps : List Value) (ts : List Tab) : Prop :=
  ps.length = ts.length ∧ ∀ (i : Nat) (t : Tab), ts[i]? = some t → ∃ g A c A' c', ps[i]? = some (Value.pointer (some ⟨g, 0, none⟩)) ∧ TabP w base g A c A' c' t
section
variable {w w' : World} {base : Nat} {ps : List Value} {ts : List Tab}
theorem Ptrs.nil : Ptrs w base [] [] := ⟨rfl, fun i t h => by simp at h⟩
theorem Ptrs.below (h : Ptrs w base ps ts) (hb : Below w.heap.size w w') : Ptrs w' base ps ts :=
  ⟨h.1, fun i t ht => by
    obtain ⟨g, A, c, A', c', h0, h1⟩ := h.2 i t ht
    exact ⟨g, A, c, A', c', h0, h1.below hb⟩⟩
theorem Ptrs.grown {base' : Nat} {size n : Nat} {v : Value} {xs : List Value} (h : Ptrs w base ps ts) (hv : w.ownsRow base' 67 size v n xs) (hg : w.grownBy w' v.ownBlock) : Ptrs w' base ps ts :=
  ⟨h.1, fun i t ht => by
    obtain ⟨g, A, c, A', c', h0, h1⟩ := h.2 i t ht
    exact ⟨g, A, c, A', c', h0, h1.grown hv hg (by decide) (by decide) (by decide)⟩⟩
theorem Ptrs.snoc {t : Tab} {g : Nat} {A A' : Option Addr} {c c' : Nat} (h : Ptrs w base ps ts) (ht : TabP w base g A c A' c' t) : Ptrs w base (ps ++ [.pointer (some ⟨g, 0, none⟩)]) (ts ++ [t]) := by
  refine ⟨by simp [h.1], fun i u hu => ?_⟩
  rcases Nat.lt_or_ge i ts.length with hi | hi
  · rw [List.getElem?_append_left hi] at hu
    obtain ⟨g', B, d, B', d', h0, h1⟩ := h.2 i u hu
    exact ⟨g', B, d, B', d', by rw [List.getElem?_append_left (by rw [h.1]; exact hi)]; exact h0, h1⟩
  · have hin : i = ts.length := by
      have := (List.getElem?_eq_some_iff.1 hu).1
      simp at this
      omega
    subst hin
    rw [List.getElem?_append_right (by omega)] at hu
    simp at hu
    subst hu
    exact ⟨g, A, c, A', c', by rw [List.getElem?_append_right (by rw [h.1]; omega)]; simp [h.1], ht⟩
theorem Ptrs.at_ {i : Nat} {t : Tab} (h : Ptrs w base ps ts) (ht : ts[i]? = some t) : ∃ g A c A' c', ps[i]? = some (Value.pointer (some ⟨g, 0, none⟩)) ∧ TabP w base g A c A' c' t := h.2 i t ht
end
theorem takeT_snoc {ts : List Tab} {i : Nat} {t : Tab} (h : ts[i]? = some t) : ts.take (i + 1) = ts.take i ++ [t] := by
  obtain ⟨hi, rfl⟩ := List.getElem?_eq_some_iff.1 h
  rw [List.take_succ_eq_append_getElem hi]

/-- p holds of the first i tables. -/
def AllU (p : Tab → Bool) (ts : List Tab) (i : Nat) : Prop := ∀ j t, j < i → ts[j]? = some t → p t = true
theorem AllU.zero (p : Tab → Bool) (ts : List Tab) : AllU p ts 0 := fun j t h => by omega
theorem AllU.succ {p : Tab → Bool} {ts : List Tab} {i : Nat} {t : Tab} (h : AllU p ts i) (ht : ts[i]? = some t) (hp : p t = true) : AllU p ts (i + 1) := fun j u hj hu => by
  rcases Nat.lt_or_ge j i with h1 | h1
  · exact h j u h1 hu
  · have : j = i := by omega
    subst this
    rw [ht] at hu
    injection hu with hu
    rw [← hu]; exact hp
theorem AllU.end_ {p : Tab → Bool} {ts : List Tab} {i : Nat} (h : AllU p ts i) (hi : i ≤ ts.length) (hn : ¬ i < ts.length) : ts.all p = true := by
  rw [List.all_eq_true]
  intro t ht
  obtain ⟨j, hj, rfl⟩ := List.getElem_of_mem ht
  exact h j _ (by omega) (List.getElem?_eq_getElem hj)
theorem all_no {p : Tab → Bool} {ts : List Tab} {i : Nat} {t : Tab} (ht : ts[i]? = some t) (hp : p t = false) : ts.all p = false := by
  rw [Bool.eq_false_iff]
  intro h
  rw [List.all_eq_true] at h
  have := h t (List.mem_of_getElem? ht)
  rw [hp] at this
  cases this
theorem any_yes {p : Tab → Bool} {ts : List Tab} {i : Nat} {t : Tab} (ht : ts[i]? = some t) (hp : p t = true) : ts.any p = true := by
  rw [List.any_eq_true]
  exact ⟨t, List.mem_of_getElem? ht, hp⟩
/-- p holds of none of the first i tables. -/
theorem any_end {p : Tab → Bool} {ts : List Tab} {i : Nat} (h : AllU (fun t => !p t) ts i) (hi : i ≤ ts.length) (hn : ¬ i < ts.length) : ts.any p = false := by
  have := h.end_ hi hn
  rw [Bool.eq_false_iff]
  intro h'
  rw [List.any_eq_true] at h'
  obtain ⟨t, ht, hp⟩ := h'
  rw [List.all_eq_true] at this
  have := this t ht
  rw [hp] at this
  cases this


/-- The slice at A holds pointers to the tables ts. -/
def RdP (w : World) (A : Option Addr) (c : Nat) (ts : List Tab) : Prop :=
  ∃ base ps, Ptrs w base ps ts ∧ w.ownsRow base 67 1 (.slice A ts.length c) ts.length ps
theorem RdP.below {w w' : World} {A : Option Addr} {c : Nat} {ts : List Tab} (h : RdP w A c ts) (hb : Below w.heap.size w w') : RdP w' A c ts := by
  obtain ⟨base, ps, h1, h2⟩ := h
  exact ⟨base, ps, h1.below hb, own_below h2 hb⟩
theorem RdP.at_ {w : World} {A : Option Addr} {c : Nat} {ts : List Tab} {i : Nat} (h : RdP w A c ts) (hi : i < ts.length) : ∃ b t g A1 c1 A2 c2, A = some ⟨b, 0, none⟩ ∧ ts[i]? = some t ∧
    w.cell? ⟨b, i, none⟩ = some (.pointer (some ⟨g, 0, none⟩)) ∧ w.cell? ⟨g, 0, none⟩ = some (.slice A1 t.a.length c1) ∧ w.cell? ⟨g, 0 + 1, none⟩ = some (.slice A2 t.b.length c2) ∧
      Rd w w.heap.size .u16 65536 A1 t.a ∧ Rd w w.heap.size .u32 4294967296 A2 t.b := by
  obtain ⟨base, ps, h1, h2⟩ := h
  have hx : ts[i]? = some ts[i] := List.getElem?_eq_getElem hi
  obtain ⟨g, A1, c1, A2, c2, hp, hT⟩ := h1.at_ hx
  obtain ⟨b, cap, hv, _, hlt⟩ := h2.form (by omega)
  have hA : A = some ⟨b, 0, none⟩ := by injection hv
  subst hA
  have hc := h2.cells (g := b) rfl i _ hp
  have ad : (⟨b, 0, none⟩ : Addr).add i = ⟨b, i, none⟩ := by unfold Addr.add; split <;> simp_all
  rw [ad] at hc
  exact ⟨b, ts[i], g, A1, c1, A2, c2, rfl, hx, hc, hT.c0, hT.c1, hT.rd16, hT.rd32⟩
end Go.Proofs.Ytnhmacmpobkdoaa
