/- A is in the letter's table. -/
import Derived.Test.YtnhmacmpobkdoaaLawA
import Derived.Test.YtnhmacmpobkdoaaLetter
namespace Go.Proofs.Ytnhmacmpobkdoaa
open Go.RowKit
set_option linter.unusedVariables false

theorem letterIs_any (Al : Option Addr) (cl : Nat) (w : World) (hR : Rd w w.heap.size .u16 65536 Al [⟨65, 65, 1⟩]) :
    Calls Try.prog 20 #[.agg #[.slice Al 1 cl, .slice none 0 0, .int .i64 1], .int .i32 65] w fun e w' => e = .returned (.bool true) ∧ Below w.heap.size w w' := by
  have h := implIs_any Al none cl 0 [⟨65, 65, 1⟩] [] 1 65 w (by omega) (by omega) srt_A (srt_nil _ _) hR Rd.nil
  have e : isB ⟨[⟨65, 65, 1⟩], [], 1⟩ 65 = true := by decide
  rw [e] at h
  exact h
theorem emptyIs_any (r : Int) (w : World) (hr0 : -2147483648 ≤ r) (hr1 : r ≤ 2147483647) :
    Calls Try.prog 20 #[.agg #[.slice none 0 0, .slice none 0 0, .int .i64 0], .int .i32 r] w fun e w' => e = .returned (.bool false) ∧ Below w.heap.size w w' :=
  implIs_any none none 0 0 [] [] 0 r w hr0 hr1 (srt_nil _ _) (srt_nil _ _) Rd.nil Rd.nil
end Go.Proofs.Ytnhmacmpobkdoaa
