/- The contract of In for a part of a list, in one form for all parts. -/
import Derived.Test.YtnhmacmpobkdoaaLawV
namespace Go.Proofs.Ytnhmacmpobkdoaa
open Go.RowKit
set_option linter.unusedVariables false
theorem implIn_seg (B : Option Addr) (d c2 : Nat) (us : List Tab) (r : Int) (w : World) (hr0 : -2147483648 ≤ r) (hr1 : r ≤ 2147483647) (hs : SrtT us) (hd : us.length = d) (hl : us.length ≤ 5) (hT : RdT w w.heap.size B us) :
    Calls Try.prog 15 #[.int .i32 r, .slice B d c2] w fun e w' => e = .returned (.bool (us.any (isB · r))) ∧ Below w.heap.size w w' := by
  subst hd
  exact implIn_any B c2 us r w hr0 hr1 (by omega) hs hT
end Go.Proofs.Ytnhmacmpobkdoaa
