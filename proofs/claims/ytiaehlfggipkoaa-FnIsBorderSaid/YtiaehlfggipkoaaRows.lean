/-
  No cell of these rows narrows 'for every input' (looked for: loops, veiled, ifaces, maps, wideKeys, modest, calm, conditions, laid).
  DERIVED. THE GIVEN ROWS OF THIS SEAT. 12 by the template 'for every input the law returns true; each argument reads behind the call as it read before'; 0 by the template 'total and deterministic' (their statements: YtiaehlfggipkoaaTotals.lean).
  GIVEN WITH THE SEED: the statements are not yours to turn. If you find one false, say at which input.
  Laid BY PROGRAM, IN A SANDBOX (cutbox-rows.mjs): the forced cells as the released guide's own fill.sh prints them over the translation 28c723296c5ae3ab… (all of the seat's roots in one cut). By AI agents, Wed Nov 11 2026. No macro, syntax, notation, axiom, sorry.
-/
import Derived.Test.YtiaehlfggipkoaaChecked
import GoSem.Claim
import GoSem.ClaimJoined
import GoSem.ClaimMapViews
import Derived.JoinedTies
import Derived.KernelRfl
namespace Go.Proofs.Ytiaehlfggipkoaa
/- THE CELL 'sum', in the pinned program and in every row, IS THE sha256 OF THE DUMP (.gsa) THAT YtiaehlfggipkoaaProg.lean LOADS. Nothing in Lean hashes anything: it is a label: what it is worth is what the hold of that sum in a sandbox is worth. -/
noncomputable def Try.pinned : Pinned := { name := "ytiaehlfggipkoaa", sum := "28c723296c5ae3ab5f4373cb517b4300bceee276cd1e9cf5a0e46994a9a6d565", checked := Try.checked }
namespace Rows
def none {H : Type} : Left H := { results := [], args := [] }

/-- 'laws.FnIs': WHATEVER THE INPUT: true; the input reads as it did. -/
def fnIsSpec : ChangeSpec := { name := "fnIs", fn := fun _ => fun
  | [d] => { results := [.lit (.bool true)], args := [d] }
  | _ => none }
def fnIsRow : OpenClaim := { program := "ytiaehlfggipkoaa", sum := "28c723296c5ae3ab5f4373cb517b4300bceee276cd1e9cf5a0e46994a9a6d565", func := "loop.example/lib-unicodetables/laws.FnIs", spec := "fnIs", apart := false }
def FnIsSaid : Prop := fnIsRow.holds Try.pinned (OpenSpec.ofChange fnIsSpec)

/-- ITS FALSE NEIGHBOUR: 'it returns false'. Refute it at one input. -/
def fnIsWrong : ChangeSpec := { name := "fnIs", fn := fun _ => fun
  | [d] => { results := [.lit (.bool false)], args := [d] }
  | _ => none }
def FnIsWrongFalsely : Prop := fnIsRow.holds Try.pinned (OpenSpec.ofChange fnIsWrong)

/-- 'laws.FnIsLoose': WHATEVER THE INPUT: true; the input reads as it did. -/
def fnIsLooseSpec : ChangeSpec := { name := "fnIsLoose", fn := fun _ => fun
  | [d] => { results := [.lit (.bool true)], args := [d] }
  | _ => none }
def fnIsLooseRow : OpenClaim := { program := "ytiaehlfggipkoaa", sum := "28c723296c5ae3ab5f4373cb517b4300bceee276cd1e9cf5a0e46994a9a6d565", func := "loop.example/lib-unicodetables/laws.FnIsLoose", spec := "fnIsLoose", apart := false }
def FnIsLooseSaid : Prop := fnIsLooseRow.holds Try.pinned (OpenSpec.ofChange fnIsLooseSpec)

/-- ITS FALSE NEIGHBOUR: 'it returns false'. Refute it at one input. -/
def fnIsLooseWrong : ChangeSpec := { name := "fnIsLoose", fn := fun _ => fun
  | [d] => { results := [.lit (.bool false)], args := [d] }
  | _ => none }
def FnIsLooseWrongFalsely : Prop := fnIsLooseRow.holds Try.pinned (OpenSpec.ofChange fnIsLooseWrong)

/-- 'laws.FnIsFirst': WHATEVER THE INPUT: true; the input reads as it did. -/
def fnIsFirstSpec : ChangeSpec := { name := "fnIsFirst", fn := fun _ => fun
  | [d] => { results := [.lit (.bool true)], args := [d] }
  | _ => none }
def fnIsFirstRow : OpenClaim := { program := "ytiaehlfggipkoaa", sum := "28c723296c5ae3ab5f4373cb517b4300bceee276cd1e9cf5a0e46994a9a6d565", func := "loop.example/lib-unicodetables/laws.FnIsFirst", spec := "fnIsFirst", apart := false }
def FnIsFirstSaid : Prop := fnIsFirstRow.holds Try.pinned (OpenSpec.ofChange fnIsFirstSpec)

/-- ITS FALSE NEIGHBOUR: 'it returns false'. Refute it at one input. -/
def fnIsFirstWrong : ChangeSpec := { name := "fnIsFirst", fn := fun _ => fun
  | [d] => { results := [.lit (.bool false)], args := [d] }
  | _ => none }
def FnIsFirstWrongFalsely : Prop := fnIsFirstRow.holds Try.pinned (OpenSpec.ofChange fnIsFirstWrong)

/-- 'laws.FnIsOutside': WHATEVER THE INPUT: true; the input reads as it did. -/
def fnIsOutsideSpec : ChangeSpec := { name := "fnIsOutside", fn := fun _ => fun
  | [d] => { results := [.lit (.bool true)], args := [d] }
  | _ => none }
def fnIsOutsideRow : OpenClaim := { program := "ytiaehlfggipkoaa", sum := "28c723296c5ae3ab5f4373cb517b4300bceee276cd1e9cf5a0e46994a9a6d565", func := "loop.example/lib-unicodetables/laws.FnIsOutside", spec := "fnIsOutside", apart := false }
def FnIsOutsideSaid : Prop := fnIsOutsideRow.holds Try.pinned (OpenSpec.ofChange fnIsOutsideSpec)

/-- ITS FALSE NEIGHBOUR: 'it returns false'. Refute it at one input. -/
def fnIsOutsideWrong : ChangeSpec := { name := "fnIsOutside", fn := fun _ => fun
  | [d] => { results := [.lit (.bool false)], args := [d] }
  | _ => none }
def FnIsOutsideWrongFalsely : Prop := fnIsOutsideRow.holds Try.pinned (OpenSpec.ofChange fnIsOutsideWrong)

/-- 'laws.FnIsEmpty': WHATEVER THE INPUT: true; the input reads as it did. -/
def fnIsEmptySpec : ChangeSpec := { name := "fnIsEmpty", fn := fun _ => fun
  | [d] => { results := [.lit (.bool true)], args := [d] }
  | _ => none }
def fnIsEmptyRow : OpenClaim := { program := "ytiaehlfggipkoaa", sum := "28c723296c5ae3ab5f4373cb517b4300bceee276cd1e9cf5a0e46994a9a6d565", func := "loop.example/lib-unicodetables/laws.FnIsEmpty", spec := "fnIsEmpty", apart := false }
def FnIsEmptySaid : Prop := fnIsEmptyRow.holds Try.pinned (OpenSpec.ofChange fnIsEmptySpec)

/-- ITS FALSE NEIGHBOUR: 'it returns false'. Refute it at one input. -/
def fnIsEmptyWrong : ChangeSpec := { name := "fnIsEmpty", fn := fun _ => fun
  | [d] => { results := [.lit (.bool false)], args := [d] }
  | _ => none }
def FnIsEmptyWrongFalsely : Prop := fnIsEmptyRow.holds Try.pinned (OpenSpec.ofChange fnIsEmptyWrong)

/-- 'laws.FnIsLists': WHATEVER THE INPUT: true; the input reads as it did. -/
def fnIsListsSpec : ChangeSpec := { name := "fnIsLists", fn := fun _ => fun
  | [d] => { results := [.lit (.bool true)], args := [d] }
  | _ => none }
def fnIsListsRow : OpenClaim := { program := "ytiaehlfggipkoaa", sum := "28c723296c5ae3ab5f4373cb517b4300bceee276cd1e9cf5a0e46994a9a6d565", func := "loop.example/lib-unicodetables/laws.FnIsLists", spec := "fnIsLists", apart := false }
def FnIsListsSaid : Prop := fnIsListsRow.holds Try.pinned (OpenSpec.ofChange fnIsListsSpec)

/-- ITS FALSE NEIGHBOUR: 'it returns false'. Refute it at one input. -/
def fnIsListsWrong : ChangeSpec := { name := "fnIsLists", fn := fun _ => fun
  | [d] => { results := [.lit (.bool false)], args := [d] }
  | _ => none }
def FnIsListsWrongFalsely : Prop := fnIsListsRow.holds Try.pinned (OpenSpec.ofChange fnIsListsWrong)

/-- 'laws.FnIsLatin': WHATEVER THE INPUT: true; the input reads as it did. -/
def fnIsLatinSpec : ChangeSpec := { name := "fnIsLatin", fn := fun _ => fun
  | [d] => { results := [.lit (.bool true)], args := [d] }
  | _ => none }
def fnIsLatinRow : OpenClaim := { program := "ytiaehlfggipkoaa", sum := "28c723296c5ae3ab5f4373cb517b4300bceee276cd1e9cf5a0e46994a9a6d565", func := "loop.example/lib-unicodetables/laws.FnIsLatin", spec := "fnIsLatin", apart := false }
def FnIsLatinSaid : Prop := fnIsLatinRow.holds Try.pinned (OpenSpec.ofChange fnIsLatinSpec)

/-- ITS FALSE NEIGHBOUR: 'it returns false'. Refute it at one input. -/
def fnIsLatinWrong : ChangeSpec := { name := "fnIsLatin", fn := fun _ => fun
  | [d] => { results := [.lit (.bool false)], args := [d] }
  | _ => none }
def FnIsLatinWrongFalsely : Prop := fnIsLatinRow.holds Try.pinned (OpenSpec.ofChange fnIsLatinWrong)

/-- 'laws.FnIsBetween': WHATEVER THE INPUT: true; the input reads as it did. -/
def fnIsBetweenSpec : ChangeSpec := { name := "fnIsBetween", fn := fun _ => fun
  | [d] => { results := [.lit (.bool true)], args := [d] }
  | _ => none }
def fnIsBetweenRow : OpenClaim := { program := "ytiaehlfggipkoaa", sum := "28c723296c5ae3ab5f4373cb517b4300bceee276cd1e9cf5a0e46994a9a6d565", func := "loop.example/lib-unicodetables/laws.FnIsBetween", spec := "fnIsBetween", apart := false }
def FnIsBetweenSaid : Prop := fnIsBetweenRow.holds Try.pinned (OpenSpec.ofChange fnIsBetweenSpec)

/-- ITS FALSE NEIGHBOUR: 'it returns false'. Refute it at one input. -/
def fnIsBetweenWrong : ChangeSpec := { name := "fnIsBetween", fn := fun _ => fun
  | [d] => { results := [.lit (.bool false)], args := [d] }
  | _ => none }
def FnIsBetweenWrongFalsely : Prop := fnIsBetweenRow.holds Try.pinned (OpenSpec.ofChange fnIsBetweenWrong)

/-- 'laws.FnIsStep': WHATEVER THE INPUT: true; the input reads as it did. -/
def fnIsStepSpec : ChangeSpec := { name := "fnIsStep", fn := fun _ => fun
  | [d] => { results := [.lit (.bool true)], args := [d] }
  | _ => none }
def fnIsStepRow : OpenClaim := { program := "ytiaehlfggipkoaa", sum := "28c723296c5ae3ab5f4373cb517b4300bceee276cd1e9cf5a0e46994a9a6d565", func := "loop.example/lib-unicodetables/laws.FnIsStep", spec := "fnIsStep", apart := false }
def FnIsStepSaid : Prop := fnIsStepRow.holds Try.pinned (OpenSpec.ofChange fnIsStepSpec)

/-- ITS FALSE NEIGHBOUR: 'it returns false'. Refute it at one input. -/
def fnIsStepWrong : ChangeSpec := { name := "fnIsStep", fn := fun _ => fun
  | [d] => { results := [.lit (.bool false)], args := [d] }
  | _ => none }
def FnIsStepWrongFalsely : Prop := fnIsStepRow.holds Try.pinned (OpenSpec.ofChange fnIsStepWrong)

/-- 'laws.FnIsWithout': WHATEVER THE INPUT: true; the input reads as it did. -/
def fnIsWithoutSpec : ChangeSpec := { name := "fnIsWithout", fn := fun _ => fun
  | [d] => { results := [.lit (.bool true)], args := [d] }
  | _ => none }
def fnIsWithoutRow : OpenClaim := { program := "ytiaehlfggipkoaa", sum := "28c723296c5ae3ab5f4373cb517b4300bceee276cd1e9cf5a0e46994a9a6d565", func := "loop.example/lib-unicodetables/laws.FnIsWithout", spec := "fnIsWithout", apart := false }
def FnIsWithoutSaid : Prop := fnIsWithoutRow.holds Try.pinned (OpenSpec.ofChange fnIsWithoutSpec)

/-- ITS FALSE NEIGHBOUR: 'it returns false'. Refute it at one input. -/
def fnIsWithoutWrong : ChangeSpec := { name := "fnIsWithout", fn := fun _ => fun
  | [d] => { results := [.lit (.bool false)], args := [d] }
  | _ => none }
def FnIsWithoutWrongFalsely : Prop := fnIsWithoutRow.holds Try.pinned (OpenSpec.ofChange fnIsWithoutWrong)

/-- 'laws.FnIsOf': WHATEVER THE INPUT: true; the input reads as it did. -/
def fnIsOfSpec : ChangeSpec := { name := "fnIsOf", fn := fun _ => fun
  | [d] => { results := [.lit (.bool true)], args := [d] }
  | _ => none }
def fnIsOfRow : OpenClaim := { program := "ytiaehlfggipkoaa", sum := "28c723296c5ae3ab5f4373cb517b4300bceee276cd1e9cf5a0e46994a9a6d565", func := "loop.example/lib-unicodetables/laws.FnIsOf", spec := "fnIsOf", apart := false }
def FnIsOfSaid : Prop := fnIsOfRow.holds Try.pinned (OpenSpec.ofChange fnIsOfSpec)

/-- ITS FALSE NEIGHBOUR: 'it returns false'. Refute it at one input. -/
def fnIsOfWrong : ChangeSpec := { name := "fnIsOf", fn := fun _ => fun
  | [d] => { results := [.lit (.bool false)], args := [d] }
  | _ => none }
def FnIsOfWrongFalsely : Prop := fnIsOfRow.holds Try.pinned (OpenSpec.ofChange fnIsOfWrong)

/-- 'laws.FnIsBorder': WHATEVER THE INPUT: true; the input reads as it did. -/
def fnIsBorderSpec : ChangeSpec := { name := "fnIsBorder", fn := fun _ => fun
  | [d] => { results := [.lit (.bool true)], args := [d] }
  | _ => none }
def fnIsBorderRow : OpenClaim := { program := "ytiaehlfggipkoaa", sum := "28c723296c5ae3ab5f4373cb517b4300bceee276cd1e9cf5a0e46994a9a6d565", func := "loop.example/lib-unicodetables/laws.FnIsBorder", spec := "fnIsBorder", apart := false }
def FnIsBorderSaid : Prop := fnIsBorderRow.holds Try.pinned (OpenSpec.ofChange fnIsBorderSpec)

/-- ITS FALSE NEIGHBOUR: 'it returns false'. Refute it at one input. -/
def fnIsBorderWrong : ChangeSpec := { name := "fnIsBorder", fn := fun _ => fun
  | [d] => { results := [.lit (.bool false)], args := [d] }
  | _ => none }
def FnIsBorderWrongFalsely : Prop := fnIsBorderRow.holds Try.pinned (OpenSpec.ofChange fnIsBorderWrong)

/- THE SECOND FORM. 'bulk': how many values and letters a reading holds, each counted each time it is reached (what is shared counts as often as it is met; a slice's spare places count too). A statement '..UptoSaid' is the law's where the arguments, and the package variables that the reading takes, are together of bulk at most 1048576: NARROWER than '..Said'. Prove '..Said' where nothing that the law and all that it calls make is longer than what came in: it says more and counts as full. Else prove '..UptoSaid'. A law counts once. -/
mutual
def uptoBulk {H : Type} : DataW H → Nat
  | .lit (.string bytes) => bytes.length + 1
  | .lit _ => 1
  | .nil => 1
  | .ptr d => uptoBulk d + 1
  | .slice elems spare => uptoBulkAll elems + uptoBulkAll spare + 1
  | .agg parts => uptoBulkAll parts + 1
  | .iface _ d => uptoBulk d + 1
  | .map entries => uptoBulkEntries entries + 1
  | .held _ => 1
def uptoBulkAll {H : Type} : List (DataW H) → Nat
  | [] => 0
  | d :: r => uptoBulk d + uptoBulkAll r
def uptoBulkEntries {H : Type} : List (Lit × DataW H) → Nat
  | [] => 0
  | x :: r => uptoBulkEntry x + uptoBulkEntries r
def uptoBulkEntry {H : Type} : Lit × DataW H → Nat
  | (.string bytes, d) => bytes.length + uptoBulk d + 1
  | (_, d) => uptoBulk d + 1
 end
def uptoSmall : (H : Type) → List (DataW H) → Bool := fun _ ds => decide (uptoBulkAll ds ≤ 1048576)
def OpenSpec.upto (s : _root_.Go.ChangeSpec) : _root_.Go.OpenSpec := { _root_.Go.OpenSpec.ofChange s with cond := some uptoSmall }

/-- 'laws.FnIs', WHERE WHAT IT READS IS OF BULK AT MOST 1048576: true; the input reads as it did. -/
def fnIsUptoRow : OpenClaim := { program := "ytiaehlfggipkoaa", sum := "28c723296c5ae3ab5f4373cb517b4300bceee276cd1e9cf5a0e46994a9a6d565", func := "loop.example/lib-unicodetables/laws.FnIs", spec := "fnIs", apart := false, narrowed := true }
def FnIsUptoSaid : Prop := fnIsUptoRow.holds Try.pinned (OpenSpec.upto fnIsSpec)

/-- 'laws.FnIsLoose', WHERE WHAT IT READS IS OF BULK AT MOST 1048576: true; the input reads as it did. -/
def fnIsLooseUptoRow : OpenClaim := { program := "ytiaehlfggipkoaa", sum := "28c723296c5ae3ab5f4373cb517b4300bceee276cd1e9cf5a0e46994a9a6d565", func := "loop.example/lib-unicodetables/laws.FnIsLoose", spec := "fnIsLoose", apart := false, narrowed := true }
def FnIsLooseUptoSaid : Prop := fnIsLooseUptoRow.holds Try.pinned (OpenSpec.upto fnIsLooseSpec)

/-- 'laws.FnIsFirst', WHERE WHAT IT READS IS OF BULK AT MOST 1048576: true; the input reads as it did. -/
def fnIsFirstUptoRow : OpenClaim := { program := "ytiaehlfggipkoaa", sum := "28c723296c5ae3ab5f4373cb517b4300bceee276cd1e9cf5a0e46994a9a6d565", func := "loop.example/lib-unicodetables/laws.FnIsFirst", spec := "fnIsFirst", apart := false, narrowed := true }
def FnIsFirstUptoSaid : Prop := fnIsFirstUptoRow.holds Try.pinned (OpenSpec.upto fnIsFirstSpec)

/-- 'laws.FnIsOutside', WHERE WHAT IT READS IS OF BULK AT MOST 1048576: true; the input reads as it did. -/
def fnIsOutsideUptoRow : OpenClaim := { program := "ytiaehlfggipkoaa", sum := "28c723296c5ae3ab5f4373cb517b4300bceee276cd1e9cf5a0e46994a9a6d565", func := "loop.example/lib-unicodetables/laws.FnIsOutside", spec := "fnIsOutside", apart := false, narrowed := true }
def FnIsOutsideUptoSaid : Prop := fnIsOutsideUptoRow.holds Try.pinned (OpenSpec.upto fnIsOutsideSpec)

/-- 'laws.FnIsEmpty', WHERE WHAT IT READS IS OF BULK AT MOST 1048576: true; the input reads as it did. -/
def fnIsEmptyUptoRow : OpenClaim := { program := "ytiaehlfggipkoaa", sum := "28c723296c5ae3ab5f4373cb517b4300bceee276cd1e9cf5a0e46994a9a6d565", func := "loop.example/lib-unicodetables/laws.FnIsEmpty", spec := "fnIsEmpty", apart := false, narrowed := true }
def FnIsEmptyUptoSaid : Prop := fnIsEmptyUptoRow.holds Try.pinned (OpenSpec.upto fnIsEmptySpec)

/-- 'laws.FnIsLists', WHERE WHAT IT READS IS OF BULK AT MOST 1048576: true; the input reads as it did. -/
def fnIsListsUptoRow : OpenClaim := { program := "ytiaehlfggipkoaa", sum := "28c723296c5ae3ab5f4373cb517b4300bceee276cd1e9cf5a0e46994a9a6d565", func := "loop.example/lib-unicodetables/laws.FnIsLists", spec := "fnIsLists", apart := false, narrowed := true }
def FnIsListsUptoSaid : Prop := fnIsListsUptoRow.holds Try.pinned (OpenSpec.upto fnIsListsSpec)

/-- 'laws.FnIsLatin', WHERE WHAT IT READS IS OF BULK AT MOST 1048576: true; the input reads as it did. -/
def fnIsLatinUptoRow : OpenClaim := { program := "ytiaehlfggipkoaa", sum := "28c723296c5ae3ab5f4373cb517b4300bceee276cd1e9cf5a0e46994a9a6d565", func := "loop.example/lib-unicodetables/laws.FnIsLatin", spec := "fnIsLatin", apart := false, narrowed := true }
def FnIsLatinUptoSaid : Prop := fnIsLatinUptoRow.holds Try.pinned (OpenSpec.upto fnIsLatinSpec)

/-- 'laws.FnIsBetween', WHERE WHAT IT READS IS OF BULK AT MOST 1048576: true; the input reads as it did. -/
def fnIsBetweenUptoRow : OpenClaim := { program := "ytiaehlfggipkoaa", sum := "28c723296c5ae3ab5f4373cb517b4300bceee276cd1e9cf5a0e46994a9a6d565", func := "loop.example/lib-unicodetables/laws.FnIsBetween", spec := "fnIsBetween", apart := false, narrowed := true }
def FnIsBetweenUptoSaid : Prop := fnIsBetweenUptoRow.holds Try.pinned (OpenSpec.upto fnIsBetweenSpec)

/-- 'laws.FnIsStep', WHERE WHAT IT READS IS OF BULK AT MOST 1048576: true; the input reads as it did. -/
def fnIsStepUptoRow : OpenClaim := { program := "ytiaehlfggipkoaa", sum := "28c723296c5ae3ab5f4373cb517b4300bceee276cd1e9cf5a0e46994a9a6d565", func := "loop.example/lib-unicodetables/laws.FnIsStep", spec := "fnIsStep", apart := false, narrowed := true }
def FnIsStepUptoSaid : Prop := fnIsStepUptoRow.holds Try.pinned (OpenSpec.upto fnIsStepSpec)

/-- 'laws.FnIsWithout', WHERE WHAT IT READS IS OF BULK AT MOST 1048576: true; the input reads as it did. -/
def fnIsWithoutUptoRow : OpenClaim := { program := "ytiaehlfggipkoaa", sum := "28c723296c5ae3ab5f4373cb517b4300bceee276cd1e9cf5a0e46994a9a6d565", func := "loop.example/lib-unicodetables/laws.FnIsWithout", spec := "fnIsWithout", apart := false, narrowed := true }
def FnIsWithoutUptoSaid : Prop := fnIsWithoutUptoRow.holds Try.pinned (OpenSpec.upto fnIsWithoutSpec)

/-- 'laws.FnIsOf', WHERE WHAT IT READS IS OF BULK AT MOST 1048576: true; the input reads as it did. -/
def fnIsOfUptoRow : OpenClaim := { program := "ytiaehlfggipkoaa", sum := "28c723296c5ae3ab5f4373cb517b4300bceee276cd1e9cf5a0e46994a9a6d565", func := "loop.example/lib-unicodetables/laws.FnIsOf", spec := "fnIsOf", apart := false, narrowed := true }
def FnIsOfUptoSaid : Prop := fnIsOfUptoRow.holds Try.pinned (OpenSpec.upto fnIsOfSpec)

/-- 'laws.FnIsBorder', WHERE WHAT IT READS IS OF BULK AT MOST 1048576: true; the input reads as it did. -/
def fnIsBorderUptoRow : OpenClaim := { program := "ytiaehlfggipkoaa", sum := "28c723296c5ae3ab5f4373cb517b4300bceee276cd1e9cf5a0e46994a9a6d565", func := "loop.example/lib-unicodetables/laws.FnIsBorder", spec := "fnIsBorder", apart := false, narrowed := true }
def FnIsBorderUptoSaid : Prop := fnIsBorderUptoRow.holds Try.pinned (OpenSpec.upto fnIsBorderSpec)

end Rows
end Go.Proofs.Ytiaehlfggipkoaa
