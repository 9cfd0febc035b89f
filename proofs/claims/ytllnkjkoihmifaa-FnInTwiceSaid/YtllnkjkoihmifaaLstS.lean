/- The cells of a list of tables, one by one. -/
import Derived.Test.YtllnkjkoihmifaaLstR
namespace Go.Proofs.Ytllnkjkoihmifaa
open Go.RowKit
set_option linter.unusedVariables false

theorem cellsE_get : ∀ (l : List Ent) (j : Nat) (u : Value), (cellsE l)[j]? = some u → ∃ i x, l[i]? = some x ∧ ((j = i * 3 ∧ u = .slice x.p x.t.a.length x.cp) ∨ (j = i * 3 + 1 ∧ u = .slice x.q x.t.b.length x.cq) ∨ (j = i * 3 + 2 ∧ u = .int .i64 x.t.n)) := by
  intro l
  induction l with
  | nil => intro j u h; simp [cellsE] at h
  | cons y r ih =>
    intro j u h
    have e : cellsE (y :: r) = .slice y.p y.t.a.length y.cp :: .slice y.q y.t.b.length y.cq :: .int .i64 y.t.n :: cellsE r := rfl
    rw [e] at h
    match j, h with
    | 0, h => simp at h; exact ⟨0, y, rfl, .inl ⟨rfl, h.symm⟩⟩
    | 1, h => simp at h; exact ⟨0, y, rfl, .inr (.inl ⟨rfl, h.symm⟩)⟩
    | 2, h => simp at h; exact ⟨0, y, rfl, .inr (.inr ⟨rfl, h.symm⟩)⟩
    | j + 3, h =>
      simp only [List.getElem?_cons_succ] at h
      obtain ⟨i, x, hx, hh⟩ := ih j u h
      refine ⟨i + 1, x, by simpa using hx, ?_⟩
      rcases hh with ⟨rfl, hu⟩ | ⟨rfl, hu⟩ | ⟨rfl, hu⟩
      · exact .inl ⟨by omega, hu⟩
      · exact .inr (.inl ⟨by omega, hu⟩)
      · exact .inr (.inr ⟨by omega, hu⟩)
theorem cellsE_length (l : List Ent) : (cellsE l).length = l.length * 3 := by
  induction l with
  | nil => rfl
  | cons x r ih =>
    have : cellsE (x :: r) = .slice x.p x.t.a.length x.cp :: .slice x.q x.t.b.length x.cq :: .int .i64 x.t.n :: cellsE r := rfl
    rw [this]
    simp only [List.length_cons, ih]
    omega
theorem cellsE_one (l : List Ent) : ∀ u ∈ cellsE l, u.oneCell' = true := by
  intro u hu
  simp only [cellsE, List.mem_flatMap, List.mem_cons, List.not_mem_nil, or_false] at hu
  obtain ⟨x, _, rfl | rfl | rfl⟩ := hu <;> rfl
/-- The cells of a list that came in, at a later world. -/
theorem ents_news {W wr : World} {b : Nat} {es : List Ent} (hb : b < W.heap.size) (hq : Below W.heap.size W wr) (hcell : ∀ i x, es[i]? = some x → W.cell? ⟨b, 0 + i * 3, none⟩ = some (.slice x.p x.t.a.length x.cp) ∧ W.cell? ⟨b, 0 + i * 3 + 1, none⟩ = some (.slice x.q x.t.b.length x.cq) ∧ W.cell? ⟨b, 0 + i * 3 + 2, none⟩ = some (.int .i64 x.t.n)) :
    ∀ j u, (cellsE es)[j]? = some u → wr.cell? ((⟨b, 0, none⟩ : Addr).add j) = some u := fun j u hu => by
  have ad : (⟨b, 0, none⟩ : Addr).add j = ⟨b, 0 + j, none⟩ := by unfold Addr.add; split <;> simp_all
  rw [ad, hq.cell (p := ⟨b, 0 + j, none⟩) hb]
  obtain ⟨i, x, hx, hh⟩ := cellsE_get es j u hu
  obtain ⟨h1, h2, h3⟩ := hcell i x hx
  rcases hh with ⟨rfl, rfl⟩ | ⟨rfl, rfl⟩ | ⟨rfl, rfl⟩
  · exact h1
  · exact h2
  · exact h3
end Go.Proofs.Ytllnkjkoihmifaa
