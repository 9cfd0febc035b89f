/- Plain facts: a sorted list of ranges without one of them, and that one alone. No program occurs here. -/
import Derived.Test.YtnhmacmpobkdoaaPlainE
namespace Go.Proofs.Ytnhmacmpobkdoaa
set_option linter.unusedVariables false
theorem SrtR.less {H : Int} : ∀ {l : List Rg} {L : Int} (k : Nat), SrtR H L l → SrtR H L (l.take k ++ l.drop (k + 1)) := by
  intro l
  induction l with
  | nil => intro L k h; simpa using h
  | cons x l ih =>
    intro L k h
    obtain ⟨h0, h1, h2, h3, h4⟩ := h
    cases k with
    | zero => exact h4.le (by omega)
    | succ k => exact ⟨h0, h1, h2, h3, ih k h4⟩
theorem one_srt {L H : Int} {l : List Rg} (h : Srt L H l) {k : Nat} (hk : k < l.length) : Srt L H [l.getD k ⟨0, 0, 0⟩] := fun i hi => by
  have : i = 0 := by simp at hi; omega
  subst this
  obtain ⟨h0, h1, h2, h3, _⟩ := h k hk
  exact ⟨h0, h1, h2, h3, fun h => absurd h (by omega)⟩
theorem wo_ways {L H : Int} {l : List Rg} (h : Srt L H l) {k : Nat} (hk : k < l.length) (r : Int) :
    (memB (l.take k ++ l.drop (k + 1)) r = true ∧ memB [l.getD k ⟨0, 0, 0⟩] r = false ∧ memB l r = true) ∨ (memB (l.take k ++ l.drop (k + 1)) r = false ∧ memB [l.getD k ⟨0, 0, 0⟩] r = true ∧ memB l r = true) ∨
      (memB (l.take k ++ l.drop (k + 1)) r = false ∧ memB [l.getD k ⟨0, 0, 0⟩] r = false ∧ memB l r = false) := by
  have hx : l.drop k = l.getD k ⟨0, 0, 0⟩ :: l.drop (k + 1) := drop_cons hk rfl
  have hl : memB l r = (memB (l.take k ++ l.drop (k + 1)) r || memB [l.getD k ⟨0, 0, 0⟩] r) := by
    have e : memB l r = memB (l.take k ++ l.drop k) r := by rw [List.take_append_drop]
    rw [e, hx, memB_append, memB_append, memB_cons, memB_cons, memB_nil]
    cases memB (l.take k) r <;> cases inB (l.getD k ⟨0, 0, 0⟩) r <;> cases memB (l.drop (k + 1)) r <;> rfl
  cases h2 : memB [l.getD k ⟨0, 0, 0⟩] r
  · cases h1 : memB (l.take k ++ l.drop (k + 1)) r
    · exact .inr (.inr ⟨rfl, rfl, by rw [hl, h1, h2]; rfl⟩)
    · exact .inl ⟨rfl, rfl, by rw [hl, h1, h2]; rfl⟩
  · have hin : inB (l.getD k ⟨0, 0, 0⟩) r = true := by rw [memB_cons, memB_nil, Bool.or_false] at h2; exact h2
    rw [inB_true] at hin
    have h1 : memB (l.take k ++ l.drop (k + 1)) r = false := by
      rw [memB_false]
      intro y hy
      rcases List.mem_append.1 hy with hy | hy
      · obtain ⟨j, hj, rfl⟩ := List.getElem_of_mem hy
        rw [List.length_take] at hj
        have hu := h.up (i := j) (j := k) (by omega) hk
        rw [List.getElem_take]
        rw [List.getD_eq_getElem?_getD, List.getElem?_eq_getElem (by omega)] at hu
        exact inB_hi (by simp at hu; simp at hin; omega)
      · obtain ⟨j, hj, rfl⟩ := List.getElem_of_mem hy
        rw [List.length_drop] at hj
        have hu := h.up (i := k) (j := k + 1 + j) (by omega) (by omega)
        rw [List.getElem_drop]
        rw [List.getD_eq_getElem?_getD (i := k + 1 + j), List.getElem?_eq_getElem (by omega)] at hu
        exact inB_lo (by simp at hu; simp at hin; omega)
    exact .inr (.inl ⟨h1, rfl, by rw [hl, h1, h2]; rfl⟩)
end Go.Proofs.Ytnhmacmpobkdoaa
