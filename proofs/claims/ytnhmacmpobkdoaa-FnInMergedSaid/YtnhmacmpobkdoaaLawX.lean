/- The drawn list of tables, with what its slice's address and capacity are. -/
import Derived.Test.YtnhmacmpobkdoaaLawW
import Derived.Test.YtnhmacmpobkdoaaMkB
namespace Go.Proofs.Ytnhmacmpobkdoaa
open Go.RowKit
set_option linter.unusedVariables false
def DrewInO (w : World) (e : Ending) (w' : World) : Prop := ∃ (A' : Option Addr) (c' : Nat) (ts : List Tab) (r : Int), e = .returned (.tuple #[.int .i32 r, .slice A' ts.length c']) ∧ ts.length ≤ 5 ∧ RdT w' w'.heap.size A' ts ∧
      (∀ t ∈ ts, t.a.length ≤ 40 ∧ t.b.length ≤ 40) ∧ (ts.length ≤ c' ∧ c' ≤ 9223372036854775807) ∧ ((A' = none ∧ ts = [] ∧ c' = 0) ∨ ∃ g, A' = some ⟨g, 0, none⟩) ∧ -2147483648 ≤ r ∧ r ≤ 2147483647 ∧ Below w.heap.size w w'
theorem drawIn_own (A : Option Addr) (n c : Nat) (w : World) (hn : n ≤ 1048576) (hA : RdB w w.heap.size A n) :
    Calls Try.prog 34 #[.slice A n c] w (DrewInO w) :=
  (drawIn_any A n c w hn hA).mono fun e w' ⟨A', c', es, r, he, hl, hL, hr0, hr1, hb⟩ => ⟨A', c', es.map Ent.t, r, by rw [he, List.length_map], by rw [List.length_map]; exact hl, hL.rdT, hL.small, by rw [List.length_map]; have := own_cap hL.1; unfold maxLen at this; omega, by
    rcases own_at hL.1 with h | h
    · obtain ⟨h1, h2⟩ := own_nil hL.1 h
      exact .inl ⟨h, by rw [List.eq_nil_of_length_eq_zero h1]; rfl, h2⟩
    · exact .inr h, hr0, hr1, hb⟩
end Go.Proofs.Ytnhmacmpobkdoaa
