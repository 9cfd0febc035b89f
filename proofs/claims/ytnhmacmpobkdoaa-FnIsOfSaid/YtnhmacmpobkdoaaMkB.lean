/- The end of a function that makes a table, its lengths told otherwise. -/
import Derived.Test.YtnhmacmpobkdoaaMk
namespace Go.Proofs.Ytnhmacmpobkdoaa
open Go.RowKit
set_option linter.unusedVariables false
theorem Mk.doneL {w wr : World} {T Z X : Nat} {bt : Array Value} {A A' : Option Addr} {c c' L M : Nat} {l m : List Rg} {v0 v1 v2 : Value} (h : Mk w T Z X bt #[v0, v1, v2] A c l A' c' m wr) (hL : l.length = L) (hM : m.length = M) :
    let W := ((((wr.setCell ⟨X, 2, none⟩ (.int .i64 (latN l))).setCell ⟨Z, 0, none⟩ (.slice A L c)).setCell ⟨Z, 1, none⟩ (.slice A' M c')).setCell ⟨Z, 2, none⟩ (.int .i64 (latN l)))
    W.cell? ⟨Z, 0, none⟩ = some (.slice A L c) ∧ W.cell? ⟨Z, 1, none⟩ = some (.slice A' M c') ∧ W.cell? ⟨Z, 2, none⟩ = some (.int .i64 (latN l)) ∧
      Made w l m (.returned (.agg #[.slice A L c, .slice A' M c', .int .i64 (latN l)])) W := by
  subst hL hM
  exact h.done
/-- A row that is nil is empty. -/
theorem own_nil {w : World} {base : Nat} {e : TypeId} {size n c : Nat} {A : Option Addr} {xs : List Value} (h : w.ownsRow base e size (.slice A n c) n xs) : A = none → n = 0 ∧ c = 0 := fun hA => by
  subst hA
  rcases h.2 with ⟨h1, _⟩ | ⟨g, cap, cur, h1, _⟩
  · injection h1 with _ h2 h3
    exact ⟨h2, h3⟩
  · injection h1 with h2
    cases h2
end Go.Proofs.Ytnhmacmpobkdoaa
