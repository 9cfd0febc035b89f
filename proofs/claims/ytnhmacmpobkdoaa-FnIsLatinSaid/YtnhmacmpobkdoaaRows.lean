/-
  No cell of these rows narrows 'for every input' (looked for: loops, veiled, ifaces, maps, wideKeys, modest, calm, conditions, laid).
  DERIVED. THE GIVEN ROWS OF THIS SEAT. 12 by the template 'for every input the law returns true; each argument reads behind the call as it read before'; 0 by the template 'total and deterministic' (their statements: YtnhmacmpobkdoaaTotals.lean).
  GIVEN WITH THE SEED: the statements are not yours to turn. If you find one false, say at which input.
  Laid BY PROGRAM, IN A SANDBOX (cutbox-rows.mjs): the forced cells as the released guide's own fill.sh prints them over the translation 5f8de9502514fd44… (all of the seat's roots in one cut). By AI agents, Wed Nov 11 2026. No macro, syntax, notation, axiom, sorry.
-/
import Derived.Test.YtnhmacmpobkdoaaChecked
import GoSem.Claim
import GoSem.ClaimJoined
import GoSem.ClaimMapViews
import Derived.JoinedTies
import Derived.KernelRfl
namespace Go.Proofs.Ytnhmacmpobkdoaa
/- THE CELL 'sum', in the pinned program and in every row, IS THE sha256 OF THE DUMP (.gsa) THAT YtnhmacmpobkdoaaProg.lean LOADS. Nothing in Lean hashes anything: it is a label: what it is worth is what the hold of that sum in a sandbox is worth. -/
noncomputable def Try.pinned : Pinned := { name := "ytnhmacmpobkdoaa", sum := "5f8de9502514fd44a5ebe2ec44173de8a2e0ac232583d62b706da7e9af9b3806", checked := Try.checked }
namespace Rows
def none {H : Type} : Left H := { results := [], args := [] }

/-- 'laws.FnInRanges': WHATEVER THE INPUT: true; the input reads as it did. -/
def fnInRangesSpec : ChangeSpec := { name := "fnInRanges", fn := fun _ => fun
  | [d] => { results := [.lit (.bool true)], args := [d] }
  | _ => none }
def fnInRangesRow : OpenClaim := { program := "ytnhmacmpobkdoaa", sum := "5f8de9502514fd44a5ebe2ec44173de8a2e0ac232583d62b706da7e9af9b3806", func := "loop.example/lib-unicodetables/laws.FnInRanges", spec := "fnInRanges", apart := false }
def FnInRangesSaid : Prop := fnInRangesRow.holds Try.pinned (OpenSpec.ofChange fnInRangesSpec)

/-- ITS FALSE NEIGHBOUR: 'it returns false'. Refute it at one input. -/
def fnInRangesWrong : ChangeSpec := { name := "fnInRanges", fn := fun _ => fun
  | [d] => { results := [.lit (.bool false)], args := [d] }
  | _ => none }
def FnInRangesWrongFalsely : Prop := fnInRangesRow.holds Try.pinned (OpenSpec.ofChange fnInRangesWrong)

/-- 'laws.FnIsCut': WHATEVER THE INPUT: true; the input reads as it did. -/
def fnIsCutSpec : ChangeSpec := { name := "fnIsCut", fn := fun _ => fun
  | [d] => { results := [.lit (.bool true)], args := [d] }
  | _ => none }
def fnIsCutRow : OpenClaim := { program := "ytnhmacmpobkdoaa", sum := "5f8de9502514fd44a5ebe2ec44173de8a2e0ac232583d62b706da7e9af9b3806", func := "loop.example/lib-unicodetables/laws.FnIsCut", spec := "fnIsCut", apart := false }
def FnIsCutSaid : Prop := fnIsCutRow.holds Try.pinned (OpenSpec.ofChange fnIsCutSpec)

/-- ITS FALSE NEIGHBOUR: 'it returns false'. Refute it at one input. -/
def fnIsCutWrong : ChangeSpec := { name := "fnIsCut", fn := fun _ => fun
  | [d] => { results := [.lit (.bool false)], args := [d] }
  | _ => none }
def FnIsCutWrongFalsely : Prop := fnIsCutRow.holds Try.pinned (OpenSpec.ofChange fnIsCutWrong)

/-- 'laws.FnIsEnds': WHATEVER THE INPUT: true; the input reads as it did. -/
def fnIsEndsSpec : ChangeSpec := { name := "fnIsEnds", fn := fun _ => fun
  | [d] => { results := [.lit (.bool true)], args := [d] }
  | _ => none }
def fnIsEndsRow : OpenClaim := { program := "ytnhmacmpobkdoaa", sum := "5f8de9502514fd44a5ebe2ec44173de8a2e0ac232583d62b706da7e9af9b3806", func := "loop.example/lib-unicodetables/laws.FnIsEnds", spec := "fnIsEnds", apart := false }
def FnIsEndsSaid : Prop := fnIsEndsRow.holds Try.pinned (OpenSpec.ofChange fnIsEndsSpec)

/-- ITS FALSE NEIGHBOUR: 'it returns false'. Refute it at one input. -/
def fnIsEndsWrong : ChangeSpec := { name := "fnIsEnds", fn := fun _ => fun
  | [d] => { results := [.lit (.bool false)], args := [d] }
  | _ => none }
def FnIsEndsWrongFalsely : Prop := fnIsEndsRow.holds Try.pinned (OpenSpec.ofChange fnIsEndsWrong)

/-- 'laws.FnIsFine': WHATEVER THE INPUT: true; the input reads as it did. -/
def fnIsFineSpec : ChangeSpec := { name := "fnIsFine", fn := fun _ => fun
  | [d] => { results := [.lit (.bool true)], args := [d] }
  | _ => none }
def fnIsFineRow : OpenClaim := { program := "ytnhmacmpobkdoaa", sum := "5f8de9502514fd44a5ebe2ec44173de8a2e0ac232583d62b706da7e9af9b3806", func := "loop.example/lib-unicodetables/laws.FnIsFine", spec := "fnIsFine", apart := false }
def FnIsFineSaid : Prop := fnIsFineRow.holds Try.pinned (OpenSpec.ofChange fnIsFineSpec)

/-- ITS FALSE NEIGHBOUR: 'it returns false'. Refute it at one input. -/
def fnIsFineWrong : ChangeSpec := { name := "fnIsFine", fn := fun _ => fun
  | [d] => { results := [.lit (.bool false)], args := [d] }
  | _ => none }
def FnIsFineWrongFalsely : Prop := fnIsFineRow.holds Try.pinned (OpenSpec.ofChange fnIsFineWrong)

/-- 'laws.FnIsLatin': WHATEVER THE INPUT: true; the input reads as it did. -/
def fnIsLatinSpec : ChangeSpec := { name := "fnIsLatin", fn := fun _ => fun
  | [d] => { results := [.lit (.bool true)], args := [d] }
  | _ => none }
def fnIsLatinRow : OpenClaim := { program := "ytnhmacmpobkdoaa", sum := "5f8de9502514fd44a5ebe2ec44173de8a2e0ac232583d62b706da7e9af9b3806", func := "loop.example/lib-unicodetables/laws.FnIsLatin", spec := "fnIsLatin", apart := false }
def FnIsLatinSaid : Prop := fnIsLatinRow.holds Try.pinned (OpenSpec.ofChange fnIsLatinSpec)

/-- ITS FALSE NEIGHBOUR: 'it returns false'. Refute it at one input. -/
def fnIsLatinWrong : ChangeSpec := { name := "fnIsLatin", fn := fun _ => fun
  | [d] => { results := [.lit (.bool false)], args := [d] }
  | _ => none }
def FnIsLatinWrongFalsely : Prop := fnIsLatinRow.holds Try.pinned (OpenSpec.ofChange fnIsLatinWrong)

/-- 'laws.FnIsOf': WHATEVER THE INPUT: true; the input reads as it did. -/
def fnIsOfSpec : ChangeSpec := { name := "fnIsOf", fn := fun _ => fun
  | [d] => { results := [.lit (.bool true)], args := [d] }
  | _ => none }
def fnIsOfRow : OpenClaim := { program := "ytnhmacmpobkdoaa", sum := "5f8de9502514fd44a5ebe2ec44173de8a2e0ac232583d62b706da7e9af9b3806", func := "loop.example/lib-unicodetables/laws.FnIsOf", spec := "fnIsOf", apart := false }
def FnIsOfSaid : Prop := fnIsOfRow.holds Try.pinned (OpenSpec.ofChange fnIsOfSpec)

/-- ITS FALSE NEIGHBOUR: 'it returns false'. Refute it at one input. -/
def fnIsOfWrong : ChangeSpec := { name := "fnIsOf", fn := fun _ => fun
  | [d] => { results := [.lit (.bool false)], args := [d] }
  | _ => none }
def FnIsOfWrongFalsely : Prop := fnIsOfRow.holds Try.pinned (OpenSpec.ofChange fnIsOfWrong)

/-- 'laws.FnIsRest': WHATEVER THE INPUT: true; the input reads as it did. -/
def fnIsRestSpec : ChangeSpec := { name := "fnIsRest", fn := fun _ => fun
  | [d] => { results := [.lit (.bool true)], args := [d] }
  | _ => none }
def fnIsRestRow : OpenClaim := { program := "ytnhmacmpobkdoaa", sum := "5f8de9502514fd44a5ebe2ec44173de8a2e0ac232583d62b706da7e9af9b3806", func := "loop.example/lib-unicodetables/laws.FnIsRest", spec := "fnIsRest", apart := false }
def FnIsRestSaid : Prop := fnIsRestRow.holds Try.pinned (OpenSpec.ofChange fnIsRestSpec)

/-- ITS FALSE NEIGHBOUR: 'it returns false'. Refute it at one input. -/
def fnIsRestWrong : ChangeSpec := { name := "fnIsRest", fn := fun _ => fun
  | [d] => { results := [.lit (.bool false)], args := [d] }
  | _ => none }
def FnIsRestWrongFalsely : Prop := fnIsRestRow.holds Try.pinned (OpenSpec.ofChange fnIsRestWrong)

/-- 'laws.FnIsSingles': WHATEVER THE INPUT: true; the input reads as it did. -/
def fnIsSinglesSpec : ChangeSpec := { name := "fnIsSingles", fn := fun _ => fun
  | [d] => { results := [.lit (.bool true)], args := [d] }
  | _ => none }
def fnIsSinglesRow : OpenClaim := { program := "ytnhmacmpobkdoaa", sum := "5f8de9502514fd44a5ebe2ec44173de8a2e0ac232583d62b706da7e9af9b3806", func := "loop.example/lib-unicodetables/laws.FnIsSingles", spec := "fnIsSingles", apart := false }
def FnIsSinglesSaid : Prop := fnIsSinglesRow.holds Try.pinned (OpenSpec.ofChange fnIsSinglesSpec)

/-- ITS FALSE NEIGHBOUR: 'it returns false'. Refute it at one input. -/
def fnIsSinglesWrong : ChangeSpec := { name := "fnIsSingles", fn := fun _ => fun
  | [d] => { results := [.lit (.bool false)], args := [d] }
  | _ => none }
def FnIsSinglesWrongFalsely : Prop := fnIsSinglesRow.holds Try.pinned (OpenSpec.ofChange fnIsSinglesWrong)

/-- 'laws.FnIsWithout': WHATEVER THE INPUT: true; the input reads as it did. -/
def fnIsWithoutSpec : ChangeSpec := { name := "fnIsWithout", fn := fun _ => fun
  | [d] => { results := [.lit (.bool true)], args := [d] }
  | _ => none }
def fnIsWithoutRow : OpenClaim := { program := "ytnhmacmpobkdoaa", sum := "5f8de9502514fd44a5ebe2ec44173de8a2e0ac232583d62b706da7e9af9b3806", func := "loop.example/lib-unicodetables/laws.FnIsWithout", spec := "fnIsWithout", apart := false }
def FnIsWithoutSaid : Prop := fnIsWithoutRow.holds Try.pinned (OpenSpec.ofChange fnIsWithoutSpec)

/-- ITS FALSE NEIGHBOUR: 'it returns false'. Refute it at one input. -/
def fnIsWithoutWrong : ChangeSpec := { name := "fnIsWithout", fn := fun _ => fun
  | [d] => { results := [.lit (.bool false)], args := [d] }
  | _ => none }
def FnIsWithoutWrongFalsely : Prop := fnIsWithoutRow.holds Try.pinned (OpenSpec.ofChange fnIsWithoutWrong)

/-- 'laws.FnInAll': WHATEVER THE INPUT: true; the input reads as it did. -/
def fnInAllSpec : ChangeSpec := { name := "fnInAll", fn := fun _ => fun
  | [d] => { results := [.lit (.bool true)], args := [d] }
  | _ => none }
def fnInAllRow : OpenClaim := { program := "ytnhmacmpobkdoaa", sum := "5f8de9502514fd44a5ebe2ec44173de8a2e0ac232583d62b706da7e9af9b3806", func := "loop.example/lib-unicodetables/laws.FnInAll", spec := "fnInAll", apart := false }
def FnInAllSaid : Prop := fnInAllRow.holds Try.pinned (OpenSpec.ofChange fnInAllSpec)

/-- ITS FALSE NEIGHBOUR: 'it returns false'. Refute it at one input. -/
def fnInAllWrong : ChangeSpec := { name := "fnInAll", fn := fun _ => fun
  | [d] => { results := [.lit (.bool false)], args := [d] }
  | _ => none }
def FnInAllWrongFalsely : Prop := fnInAllRow.holds Try.pinned (OpenSpec.ofChange fnInAllWrong)

/-- 'laws.FnInParts': WHATEVER THE INPUT: true; the input reads as it did. -/
def fnInPartsSpec : ChangeSpec := { name := "fnInParts", fn := fun _ => fun
  | [d] => { results := [.lit (.bool true)], args := [d] }
  | _ => none }
def fnInPartsRow : OpenClaim := { program := "ytnhmacmpobkdoaa", sum := "5f8de9502514fd44a5ebe2ec44173de8a2e0ac232583d62b706da7e9af9b3806", func := "loop.example/lib-unicodetables/laws.FnInParts", spec := "fnInParts", apart := false }
def FnInPartsSaid : Prop := fnInPartsRow.holds Try.pinned (OpenSpec.ofChange fnInPartsSpec)

/-- ITS FALSE NEIGHBOUR: 'it returns false'. Refute it at one input. -/
def fnInPartsWrong : ChangeSpec := { name := "fnInParts", fn := fun _ => fun
  | [d] => { results := [.lit (.bool false)], args := [d] }
  | _ => none }
def FnInPartsWrongFalsely : Prop := fnInPartsRow.holds Try.pinned (OpenSpec.ofChange fnInPartsWrong)

/-- 'laws.FnInMerged': WHATEVER THE INPUT: true; the input reads as it did. -/
def fnInMergedSpec : ChangeSpec := { name := "fnInMerged", fn := fun _ => fun
  | [d] => { results := [.lit (.bool true)], args := [d] }
  | _ => none }
def fnInMergedRow : OpenClaim := { program := "ytnhmacmpobkdoaa", sum := "5f8de9502514fd44a5ebe2ec44173de8a2e0ac232583d62b706da7e9af9b3806", func := "loop.example/lib-unicodetables/laws.FnInMerged", spec := "fnInMerged", apart := false }
def FnInMergedSaid : Prop := fnInMergedRow.holds Try.pinned (OpenSpec.ofChange fnInMergedSpec)

/-- ITS FALSE NEIGHBOUR: 'it returns false'. Refute it at one input. -/
def fnInMergedWrong : ChangeSpec := { name := "fnInMerged", fn := fun _ => fun
  | [d] => { results := [.lit (.bool false)], args := [d] }
  | _ => none }
def FnInMergedWrongFalsely : Prop := fnInMergedRow.holds Try.pinned (OpenSpec.ofChange fnInMergedWrong)

/- THE SECOND FORM. 'bulk': how many values and letters a reading holds, each counted each time it is reached (what is shared counts as often as it is met; a slice's spare places count too). A statement '..UptoSaid' is the law's where the arguments, and the package variables that the reading takes, are together of bulk at most 1048576: NARROWER than '..Said'. Prove '..Said' where nothing that the law and all that it calls make is longer than what came in: it says more and counts as full. Else prove '..UptoSaid'. A law counts once. -/
mutual
def uptoBulk {H : Type} : DataW H → Nat
  | .lit (.string bytes) => bytes.length + 1
  | .lit _ => 1
  | .nil => 1
  | .ptr d => uptoBulk d + 1
  | .slice elems spare => uptoBulkAll elems + uptoBulkAll spare + 1
  | .agg parts => uptoBulkAll parts + 1
  | .iface _ d => uptoBulk d + 1
  | .map entries => uptoBulkEntries entries + 1
  | .held _ => 1
def uptoBulkAll {H : Type} : List (DataW H) → Nat
  | [] => 0
  | d :: r => uptoBulk d + uptoBulkAll r
def uptoBulkEntries {H : Type} : List (Lit × DataW H) → Nat
  | [] => 0
  | x :: r => uptoBulkEntry x + uptoBulkEntries r
def uptoBulkEntry {H : Type} : Lit × DataW H → Nat
  | (.string bytes, d) => bytes.length + uptoBulk d + 1
  | (_, d) => uptoBulk d + 1
 end
def uptoSmall : (H : Type) → List (DataW H) → Bool := fun _ ds => decide (uptoBulkAll ds ≤ 1048576)
def OpenSpec.upto (s : _root_.Go.ChangeSpec) : _root_.Go.OpenSpec := { _root_.Go.OpenSpec.ofChange s with cond := some uptoSmall }

/-- 'laws.FnInRanges', WHERE WHAT IT READS IS OF BULK AT MOST 1048576: true; the input reads as it did. -/
def fnInRangesUptoRow : OpenClaim := { program := "ytnhmacmpobkdoaa", sum := "5f8de9502514fd44a5ebe2ec44173de8a2e0ac232583d62b706da7e9af9b3806", func := "loop.example/lib-unicodetables/laws.FnInRanges", spec := "fnInRanges", apart := false, narrowed := true }
def FnInRangesUptoSaid : Prop := fnInRangesUptoRow.holds Try.pinned (OpenSpec.upto fnInRangesSpec)

/-- 'laws.FnIsCut', WHERE WHAT IT READS IS OF BULK AT MOST 1048576: true; the input reads as it did. -/
def fnIsCutUptoRow : OpenClaim := { program := "ytnhmacmpobkdoaa", sum := "5f8de9502514fd44a5ebe2ec44173de8a2e0ac232583d62b706da7e9af9b3806", func := "loop.example/lib-unicodetables/laws.FnIsCut", spec := "fnIsCut", apart := false, narrowed := true }
def FnIsCutUptoSaid : Prop := fnIsCutUptoRow.holds Try.pinned (OpenSpec.upto fnIsCutSpec)

/-- 'laws.FnIsEnds', WHERE WHAT IT READS IS OF BULK AT MOST 1048576: true; the input reads as it did. -/
def fnIsEndsUptoRow : OpenClaim := { program := "ytnhmacmpobkdoaa", sum := "5f8de9502514fd44a5ebe2ec44173de8a2e0ac232583d62b706da7e9af9b3806", func := "loop.example/lib-unicodetables/laws.FnIsEnds", spec := "fnIsEnds", apart := false, narrowed := true }
def FnIsEndsUptoSaid : Prop := fnIsEndsUptoRow.holds Try.pinned (OpenSpec.upto fnIsEndsSpec)

/-- 'laws.FnIsFine', WHERE WHAT IT READS IS OF BULK AT MOST 1048576: true; the input reads as it did. -/
def fnIsFineUptoRow : OpenClaim := { program := "ytnhmacmpobkdoaa", sum := "5f8de9502514fd44a5ebe2ec44173de8a2e0ac232583d62b706da7e9af9b3806", func := "loop.example/lib-unicodetables/laws.FnIsFine", spec := "fnIsFine", apart := false, narrowed := true }
def FnIsFineUptoSaid : Prop := fnIsFineUptoRow.holds Try.pinned (OpenSpec.upto fnIsFineSpec)

/-- 'laws.FnIsLatin', WHERE WHAT IT READS IS OF BULK AT MOST 1048576: true; the input reads as it did. -/
def fnIsLatinUptoRow : OpenClaim := { program := "ytnhmacmpobkdoaa", sum := "5f8de9502514fd44a5ebe2ec44173de8a2e0ac232583d62b706da7e9af9b3806", func := "loop.example/lib-unicodetables/laws.FnIsLatin", spec := "fnIsLatin", apart := false, narrowed := true }
def FnIsLatinUptoSaid : Prop := fnIsLatinUptoRow.holds Try.pinned (OpenSpec.upto fnIsLatinSpec)

/-- 'laws.FnIsOf', WHERE WHAT IT READS IS OF BULK AT MOST 1048576: true; the input reads as it did. -/
def fnIsOfUptoRow : OpenClaim := { program := "ytnhmacmpobkdoaa", sum := "5f8de9502514fd44a5ebe2ec44173de8a2e0ac232583d62b706da7e9af9b3806", func := "loop.example/lib-unicodetables/laws.FnIsOf", spec := "fnIsOf", apart := false, narrowed := true }
def FnIsOfUptoSaid : Prop := fnIsOfUptoRow.holds Try.pinned (OpenSpec.upto fnIsOfSpec)

/-- 'laws.FnIsRest', WHERE WHAT IT READS IS OF BULK AT MOST 1048576: true; the input reads as it did. -/
def fnIsRestUptoRow : OpenClaim := { program := "ytnhmacmpobkdoaa", sum := "5f8de9502514fd44a5ebe2ec44173de8a2e0ac232583d62b706da7e9af9b3806", func := "loop.example/lib-unicodetables/laws.FnIsRest", spec := "fnIsRest", apart := false, narrowed := true }
def FnIsRestUptoSaid : Prop := fnIsRestUptoRow.holds Try.pinned (OpenSpec.upto fnIsRestSpec)

/-- 'laws.FnIsSingles', WHERE WHAT IT READS IS OF BULK AT MOST 1048576: true; the input reads as it did. -/
def fnIsSinglesUptoRow : OpenClaim := { program := "ytnhmacmpobkdoaa", sum := "5f8de9502514fd44a5ebe2ec44173de8a2e0ac232583d62b706da7e9af9b3806", func := "loop.example/lib-unicodetables/laws.FnIsSingles", spec := "fnIsSingles", apart := false, narrowed := true }
def FnIsSinglesUptoSaid : Prop := fnIsSinglesUptoRow.holds Try.pinned (OpenSpec.upto fnIsSinglesSpec)

/-- 'laws.FnIsWithout', WHERE WHAT IT READS IS OF BULK AT MOST 1048576: true; the input reads as it did. -/
def fnIsWithoutUptoRow : OpenClaim := { program := "ytnhmacmpobkdoaa", sum := "5f8de9502514fd44a5ebe2ec44173de8a2e0ac232583d62b706da7e9af9b3806", func := "loop.example/lib-unicodetables/laws.FnIsWithout", spec := "fnIsWithout", apart := false, narrowed := true }
def FnIsWithoutUptoSaid : Prop := fnIsWithoutUptoRow.holds Try.pinned (OpenSpec.upto fnIsWithoutSpec)

/-- 'laws.FnInAll', WHERE WHAT IT READS IS OF BULK AT MOST 1048576: true; the input reads as it did. -/
def fnInAllUptoRow : OpenClaim := { program := "ytnhmacmpobkdoaa", sum := "5f8de9502514fd44a5ebe2ec44173de8a2e0ac232583d62b706da7e9af9b3806", func := "loop.example/lib-unicodetables/laws.FnInAll", spec := "fnInAll", apart := false, narrowed := true }
def FnInAllUptoSaid : Prop := fnInAllUptoRow.holds Try.pinned (OpenSpec.upto fnInAllSpec)

/-- 'laws.FnInParts', WHERE WHAT IT READS IS OF BULK AT MOST 1048576: true; the input reads as it did. -/
def fnInPartsUptoRow : OpenClaim := { program := "ytnhmacmpobkdoaa", sum := "5f8de9502514fd44a5ebe2ec44173de8a2e0ac232583d62b706da7e9af9b3806", func := "loop.example/lib-unicodetables/laws.FnInParts", spec := "fnInParts", apart := false, narrowed := true }
def FnInPartsUptoSaid : Prop := fnInPartsUptoRow.holds Try.pinned (OpenSpec.upto fnInPartsSpec)

/-- 'laws.FnInMerged', WHERE WHAT IT READS IS OF BULK AT MOST 1048576: true; the input reads as it did. -/
def fnInMergedUptoRow : OpenClaim := { program := "ytnhmacmpobkdoaa", sum := "5f8de9502514fd44a5ebe2ec44173de8a2e0ac232583d62b706da7e9af9b3806", func := "loop.example/lib-unicodetables/laws.FnInMerged", spec := "fnInMerged", apart := false, narrowed := true }
def FnInMergedUptoSaid : Prop := fnInMergedUptoRow.holds Try.pinned (OpenSpec.upto fnInMergedSpec)

end Rows
end Go.Proofs.Ytnhmacmpobkdoaa
