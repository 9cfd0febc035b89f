/-
  No cell of these rows narrows 'for every input' (looked for: loops, veiled, ifaces, maps, wideKeys, modest, calm, conditions, laid).
  DERIVED. THE GIVEN ROWS OF THIS SEAT. 6 by the template 'for every input the law returns true; each argument reads behind the call as it read before'; 0 by the template 'total and deterministic' (their statements: YtanlaigdfgbinaaTotals.lean).
  GIVEN WITH THE SEED: the statements are not yours to turn. If you find one false, say at which input.
  Laid BY PROGRAM, IN A SANDBOX (cutbox-rows.mjs): the forced cells as the released guide's own fill.sh prints them over the translation 94f84dd5cf94c75c… (all of the seat's roots in one cut). By AI agents, Wed Nov 11 2026. No macro, syntax, notation, axiom, sorry.
-/
import Derived.Test.YtanlaigdfgbinaaChecked
import GoSem.Claim
import GoSem.ClaimJoined
import GoSem.ClaimMapViews
import Derived.JoinedTies
import Derived.KernelRfl
namespace Go.Proofs.Ytanlaigdfgbinaa
/- THE CELL 'sum', in the pinned program and in every row, IS THE sha256 OF THE DUMP (.gsa) THAT YtanlaigdfgbinaaProg.lean LOADS. Nothing in Lean hashes anything: it is a label: what it is worth is what the hold of that sum in a sandbox is worth. -/
noncomputable def Try.pinned : Pinned := { name := "ytanlaigdfgbinaa", sum := "94f84dd5cf94c75c63ae11c3a7e030ae720fbad1571fe276cbbdb53e45de6d33", checked := Try.checked }
namespace Rows
def none {H : Type} : Left H := { results := [], args := [] }

/-- 'laws.FnExactIs': WHATEVER THE INPUT: true; the input reads as it did. -/
def fnExactIsSpec : ChangeSpec := { name := "fnExactIs", fn := fun _ => fun
  | [d1, d2] => { results := [.lit (.bool true)], args := [d1, d2] }
  | _ => none }
def fnExactIsRow : OpenClaim := { program := "ytanlaigdfgbinaa", sum := "94f84dd5cf94c75c63ae11c3a7e030ae720fbad1571fe276cbbdb53e45de6d33", func := "loop.example/lib-unicodetables/laws.FnExactIs", spec := "fnExactIs", apart := false }
def FnExactIsSaid : Prop := fnExactIsRow.holds Try.pinned (OpenSpec.ofChange fnExactIsSpec)

/-- ITS FALSE NEIGHBOUR: 'it returns false'. Refute it at one input. -/
def fnExactIsWrong : ChangeSpec := { name := "fnExactIs", fn := fun _ => fun
  | [d1, d2] => { results := [.lit (.bool false)], args := [d1, d2] }
  | _ => none }
def FnExactIsWrongFalsely : Prop := fnExactIsRow.holds Try.pinned (OpenSpec.ofChange fnExactIsWrong)

/-- 'laws.FnExactIsLoose': WHATEVER THE INPUT: true; the input reads as it did. -/
def fnExactIsLooseSpec : ChangeSpec := { name := "fnExactIsLoose", fn := fun _ => fun
  | [d1, d2] => { results := [.lit (.bool true)], args := [d1, d2] }
  | _ => none }
def fnExactIsLooseRow : OpenClaim := { program := "ytanlaigdfgbinaa", sum := "94f84dd5cf94c75c63ae11c3a7e030ae720fbad1571fe276cbbdb53e45de6d33", func := "loop.example/lib-unicodetables/laws.FnExactIsLoose", spec := "fnExactIsLoose", apart := false }
def FnExactIsLooseSaid : Prop := fnExactIsLooseRow.holds Try.pinned (OpenSpec.ofChange fnExactIsLooseSpec)

/-- ITS FALSE NEIGHBOUR: 'it returns false'. Refute it at one input. -/
def fnExactIsLooseWrong : ChangeSpec := { name := "fnExactIsLoose", fn := fun _ => fun
  | [d1, d2] => { results := [.lit (.bool false)], args := [d1, d2] }
  | _ => none }
def FnExactIsLooseWrongFalsely : Prop := fnExactIsLooseRow.holds Try.pinned (OpenSpec.ofChange fnExactIsLooseWrong)

/-- 'laws.FnExactIn': WHATEVER THE INPUT: true; the input reads as it did. -/
def fnExactInSpec : ChangeSpec := { name := "fnExactIn", fn := fun _ => fun
  | [d1, d2] => { results := [.lit (.bool true)], args := [d1, d2] }
  | _ => none }
def fnExactInRow : OpenClaim := { program := "ytanlaigdfgbinaa", sum := "94f84dd5cf94c75c63ae11c3a7e030ae720fbad1571fe276cbbdb53e45de6d33", func := "loop.example/lib-unicodetables/laws.FnExactIn", spec := "fnExactIn", apart := false }
def FnExactInSaid : Prop := fnExactInRow.holds Try.pinned (OpenSpec.ofChange fnExactInSpec)

/-- ITS FALSE NEIGHBOUR: 'it returns false'. Refute it at one input. -/
def fnExactInWrong : ChangeSpec := { name := "fnExactIn", fn := fun _ => fun
  | [d1, d2] => { results := [.lit (.bool false)], args := [d1, d2] }
  | _ => none }
def FnExactInWrongFalsely : Prop := fnExactInRow.holds Try.pinned (OpenSpec.ofChange fnExactInWrong)

/-- 'laws.FnExactInLoose': WHATEVER THE INPUT: true; the input reads as it did. -/
def fnExactInLooseSpec : ChangeSpec := { name := "fnExactInLoose", fn := fun _ => fun
  | [d1, d2] => { results := [.lit (.bool true)], args := [d1, d2] }
  | _ => none }
def fnExactInLooseRow : OpenClaim := { program := "ytanlaigdfgbinaa", sum := "94f84dd5cf94c75c63ae11c3a7e030ae720fbad1571fe276cbbdb53e45de6d33", func := "loop.example/lib-unicodetables/laws.FnExactInLoose", spec := "fnExactInLoose", apart := false }
def FnExactInLooseSaid : Prop := fnExactInLooseRow.holds Try.pinned (OpenSpec.ofChange fnExactInLooseSpec)

/-- ITS FALSE NEIGHBOUR: 'it returns false'. Refute it at one input. -/
def fnExactInLooseWrong : ChangeSpec := { name := "fnExactInLoose", fn := fun _ => fun
  | [d1, d2] => { results := [.lit (.bool false)], args := [d1, d2] }
  | _ => none }
def FnExactInLooseWrongFalsely : Prop := fnExactInLooseRow.holds Try.pinned (OpenSpec.ofChange fnExactInLooseWrong)

/-- 'laws.FnExactIsOneOf': WHATEVER THE INPUT: true; the input reads as it did. -/
def fnExactIsOneOfSpec : ChangeSpec := { name := "fnExactIsOneOf", fn := fun _ => fun
  | [d1, d2] => { results := [.lit (.bool true)], args := [d1, d2] }
  | _ => none }
def fnExactIsOneOfRow : OpenClaim := { program := "ytanlaigdfgbinaa", sum := "94f84dd5cf94c75c63ae11c3a7e030ae720fbad1571fe276cbbdb53e45de6d33", func := "loop.example/lib-unicodetables/laws.FnExactIsOneOf", spec := "fnExactIsOneOf", apart := false }
def FnExactIsOneOfSaid : Prop := fnExactIsOneOfRow.holds Try.pinned (OpenSpec.ofChange fnExactIsOneOfSpec)

/-- ITS FALSE NEIGHBOUR: 'it returns false'. Refute it at one input. -/
def fnExactIsOneOfWrong : ChangeSpec := { name := "fnExactIsOneOf", fn := fun _ => fun
  | [d1, d2] => { results := [.lit (.bool false)], args := [d1, d2] }
  | _ => none }
def FnExactIsOneOfWrongFalsely : Prop := fnExactIsOneOfRow.holds Try.pinned (OpenSpec.ofChange fnExactIsOneOfWrong)

/-- 'laws.FnExactIsOneOfLoose': WHATEVER THE INPUT: true; the input reads as it did. -/
def fnExactIsOneOfLooseSpec : ChangeSpec := { name := "fnExactIsOneOfLoose", fn := fun _ => fun
  | [d1, d2] => { results := [.lit (.bool true)], args := [d1, d2] }
  | _ => none }
def fnExactIsOneOfLooseRow : OpenClaim := { program := "ytanlaigdfgbinaa", sum := "94f84dd5cf94c75c63ae11c3a7e030ae720fbad1571fe276cbbdb53e45de6d33", func := "loop.example/lib-unicodetables/laws.FnExactIsOneOfLoose", spec := "fnExactIsOneOfLoose", apart := false }
def FnExactIsOneOfLooseSaid : Prop := fnExactIsOneOfLooseRow.holds Try.pinned (OpenSpec.ofChange fnExactIsOneOfLooseSpec)

/-- ITS FALSE NEIGHBOUR: 'it returns false'. Refute it at one input. -/
def fnExactIsOneOfLooseWrong : ChangeSpec := { name := "fnExactIsOneOfLoose", fn := fun _ => fun
  | [d1, d2] => { results := [.lit (.bool false)], args := [d1, d2] }
  | _ => none }
def FnExactIsOneOfLooseWrongFalsely : Prop := fnExactIsOneOfLooseRow.holds Try.pinned (OpenSpec.ofChange fnExactIsOneOfLooseWrong)

/- THE SECOND FORM. 'bulk': how many values and letters a reading holds, each counted each time it is reached (what is shared counts as often as it is met; a slice's spare places count too). A statement '..UptoSaid' is the law's where the arguments, and the package variables that the reading takes, are together of bulk at most 1048576: NARROWER than '..Said'. Prove '..Said' where nothing that the law and all that it calls make is longer than what came in: it says more and counts as full. Else prove '..UptoSaid'. A law counts once. -/
mutual
def uptoBulk {H : Type} : DataW H → Nat
  | .lit (.string bytes) => bytes.length + 1
  | .lit _ => 1
  | .nil => 1
  | .ptr d => uptoBulk d + 1
  | .slice elems spare => uptoBulkAll elems + uptoBulkAll spare + 1
  | .agg parts => uptoBulkAll parts + 1
  | .iface _ d => uptoBulk d + 1
  | .map entries => uptoBulkEntries entries + 1
  | .held _ => 1
def uptoBulkAll {H : Type} : List (DataW H) → Nat
  | [] => 0
  | d :: r => uptoBulk d + uptoBulkAll r
def uptoBulkEntries {H : Type} : List (Lit × DataW H) → Nat
  | [] => 0
  | x :: r => uptoBulkEntry x + uptoBulkEntries r
def uptoBulkEntry {H : Type} : Lit × DataW H → Nat
  | (.string bytes, d) => bytes.length + uptoBulk d + 1
  | (_, d) => uptoBulk d + 1
 end
def uptoSmall : (H : Type) → List (DataW H) → Bool := fun _ ds => decide (uptoBulkAll ds ≤ 1048576)
def OpenSpec.upto (s : _root_.Go.ChangeSpec) : _root_.Go.OpenSpec := { _root_.Go.OpenSpec.ofChange s with cond := some uptoSmall }

/-- 'laws.FnExactIs', WHERE WHAT IT READS IS OF BULK AT MOST 1048576: true; the input reads as it did. -/
def fnExactIsUptoRow : OpenClaim := { program := "ytanlaigdfgbinaa", sum := "94f84dd5cf94c75c63ae11c3a7e030ae720fbad1571fe276cbbdb53e45de6d33", func := "loop.example/lib-unicodetables/laws.FnExactIs", spec := "fnExactIs", apart := false, narrowed := true }
def FnExactIsUptoSaid : Prop := fnExactIsUptoRow.holds Try.pinned (OpenSpec.upto fnExactIsSpec)

/-- 'laws.FnExactIsLoose', WHERE WHAT IT READS IS OF BULK AT MOST 1048576: true; the input reads as it did. -/
def fnExactIsLooseUptoRow : OpenClaim := { program := "ytanlaigdfgbinaa", sum := "94f84dd5cf94c75c63ae11c3a7e030ae720fbad1571fe276cbbdb53e45de6d33", func := "loop.example/lib-unicodetables/laws.FnExactIsLoose", spec := "fnExactIsLoose", apart := false, narrowed := true }
def FnExactIsLooseUptoSaid : Prop := fnExactIsLooseUptoRow.holds Try.pinned (OpenSpec.upto fnExactIsLooseSpec)

/-- 'laws.FnExactIn', WHERE WHAT IT READS IS OF BULK AT MOST 1048576: true; the input reads as it did. -/
def fnExactInUptoRow : OpenClaim := { program := "ytanlaigdfgbinaa", sum := "94f84dd5cf94c75c63ae11c3a7e030ae720fbad1571fe276cbbdb53e45de6d33", func := "loop.example/lib-unicodetables/laws.FnExactIn", spec := "fnExactIn", apart := false, narrowed := true }
def FnExactInUptoSaid : Prop := fnExactInUptoRow.holds Try.pinned (OpenSpec.upto fnExactInSpec)

/-- 'laws.FnExactInLoose', WHERE WHAT IT READS IS OF BULK AT MOST 1048576: true; the input reads as it did. -/
def fnExactInLooseUptoRow : OpenClaim := { program := "ytanlaigdfgbinaa", sum := "94f84dd5cf94c75c63ae11c3a7e030ae720fbad1571fe276cbbdb53e45de6d33", func := "loop.example/lib-unicodetables/laws.FnExactInLoose", spec := "fnExactInLoose", apart := false, narrowed := true }
def FnExactInLooseUptoSaid : Prop := fnExactInLooseUptoRow.holds Try.pinned (OpenSpec.upto fnExactInLooseSpec)

/-- 'laws.FnExactIsOneOf', WHERE WHAT IT READS IS OF BULK AT MOST 1048576: true; the input reads as it did. -/
def fnExactIsOneOfUptoRow : OpenClaim := { program := "ytanlaigdfgbinaa", sum := "94f84dd5cf94c75c63ae11c3a7e030ae720fbad1571fe276cbbdb53e45de6d33", func := "loop.example/lib-unicodetables/laws.FnExactIsOneOf", spec := "fnExactIsOneOf", apart := false, narrowed := true }
def FnExactIsOneOfUptoSaid : Prop := fnExactIsOneOfUptoRow.holds Try.pinned (OpenSpec.upto fnExactIsOneOfSpec)

/-- 'laws.FnExactIsOneOfLoose', WHERE WHAT IT READS IS OF BULK AT MOST 1048576: true; the input reads as it did. -/
def fnExactIsOneOfLooseUptoRow : OpenClaim := { program := "ytanlaigdfgbinaa", sum := "94f84dd5cf94c75c63ae11c3a7e030ae720fbad1571fe276cbbdb53e45de6d33", func := "loop.example/lib-unicodetables/laws.FnExactIsOneOfLoose", spec := "fnExactIsOneOfLoose", apart := false, narrowed := true }
def FnExactIsOneOfLooseUptoSaid : Prop := fnExactIsOneOfLooseUptoRow.holds Try.pinned (OpenSpec.upto fnExactIsOneOfLooseSpec)

end Rows
end Go.Proofs.Ytanlaigdfgbinaa
