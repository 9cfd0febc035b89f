/- Plain facts: a table without one range, and that range alone. No program occurs here. -/
import Derived.Test.YtnhmacmpobkdoaaPlainW
namespace Go.Proofs.Ytnhmacmpobkdoaa
set_option linter.unusedVariables false
theorem wo16 {a b : List Rg} (v1 : Srt 0 65535 a) (v2 : Srt 65536 1114111 b) {k : Nat} (ka : k < a.length) (n1 n2 n3 r : Int) :
    (isB ⟨a.take k ++ a.drop (k + 1), b, n1⟩ r = true ∧ isB ⟨[a.getD k ⟨0, 0, 0⟩], [], n2⟩ r = false ∧ isB ⟨a, b, n3⟩ r = true) ∨
    (isB ⟨a.take k ++ a.drop (k + 1), b, n1⟩ r = false ∧ isB ⟨[a.getD k ⟨0, 0, 0⟩], [], n2⟩ r = true ∧ isB ⟨a, b, n3⟩ r = true) ∨
    (isB ⟨a.take k ++ a.drop (k + 1), b, n1⟩ r = false ∧ isB ⟨[a.getD k ⟨0, 0, 0⟩], [], n2⟩ r = false ∧ isB ⟨a, b, n3⟩ r = false) := by
  have hw := wo_ways v1 ka r
  have ho := one_srt v1 ka
  generalize a.take k ++ a.drop (k + 1) = p at *
  generalize [a.getD k ⟨0, 0, 0⟩] = s at *
  unfold isB
  simp only [memB_nil, Bool.or_false]
  cases hb : memB b r
  · simp only [Bool.or_false]
    exact hw
  · have h1 := (mem_in v2 hb).2.2.2.1
    exact .inl ⟨by simp, mem_over ho (by omega), by simp⟩
theorem wo32 {a b : List Rg} (v1 : Srt 0 65535 a) (v2 : Srt 65536 1114111 b) {k : Nat} (kb : k < b.length) (n1 n2 n3 r : Int) :
    (isB ⟨a, b.take k ++ b.drop (k + 1), n1⟩ r = true ∧ isB ⟨[], [b.getD k ⟨0, 0, 0⟩], n2⟩ r = false ∧ isB ⟨a, b, n3⟩ r = true) ∨
    (isB ⟨a, b.take k ++ b.drop (k + 1), n1⟩ r = false ∧ isB ⟨[], [b.getD k ⟨0, 0, 0⟩], n2⟩ r = true ∧ isB ⟨a, b, n3⟩ r = true) ∨
    (isB ⟨a, b.take k ++ b.drop (k + 1), n1⟩ r = false ∧ isB ⟨[], [b.getD k ⟨0, 0, 0⟩], n2⟩ r = false ∧ isB ⟨a, b, n3⟩ r = false) := by
  have hw := wo_ways v2 kb r
  have ho := one_srt v2 kb
  generalize b.take k ++ b.drop (k + 1) = p at *
  generalize [b.getD k ⟨0, 0, 0⟩] = s at *
  unfold isB
  simp only [memB_nil, Bool.false_or]
  cases ha : memB a r
  · simp only [Bool.false_or]
    exact hw
  · have h1 := (mem_in v1 ha).2.2.2.2
    exact .inl ⟨by simp, mem_neg ho (by omega), by simp⟩
end Go.Proofs.Ytnhmacmpobkdoaa
