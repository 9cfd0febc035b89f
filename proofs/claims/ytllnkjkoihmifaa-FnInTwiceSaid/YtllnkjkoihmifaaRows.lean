/-
  No cell of these rows narrows 'for every input' (looked for: loops, veiled, ifaces, maps, wideKeys, modest, calm, conditions, laid).
  DERIVED. THE GIVEN ROWS OF THIS SEAT. 10 by the template 'for every input the law returns true; each argument reads behind the call as it read before'; 0 by the template 'total and deterministic' (their statements: YtllnkjkoihmifaaTotals.lean).
  GIVEN WITH THE SEED: the statements are not yours to turn. If you find one false, say at which input.
  Laid BY PROGRAM, IN A SANDBOX (cutbox-rows.mjs): the forced cells as the released guide's own fill.sh prints them over the translation 401002e481382d58… (all of the seat's roots in one cut). By AI agents, Wed Nov 11 2026. No macro, syntax, notation, axiom, sorry.
-/
import Derived.Test.YtllnkjkoihmifaaChecked
import GoSem.Claim
import GoSem.ClaimJoined
import GoSem.ClaimMapViews
import Derived.JoinedTies
import Derived.KernelRfl
namespace Go.Proofs.Ytllnkjkoihmifaa
/- THE CELL 'sum', in the pinned program and in every row, IS THE sha256 OF THE DUMP (.gsa) THAT YtllnkjkoihmifaaProg.lean LOADS. Nothing in Lean hashes anything: it is a label: what it is worth is what the hold of that sum in a sandbox is worth. -/
noncomputable def Try.pinned : Pinned := { name := "ytllnkjkoihmifaa", sum := "401002e481382d584c4bd1b1842b08272bf8a3960e633128cb75da08928e5fa8", checked := Try.checked }
namespace Rows
def none {H : Type} : Left H := { results := [], args := [] }

/-- 'laws.FnIn': WHATEVER THE INPUT: true; the input reads as it did. -/
def fnInSpec : ChangeSpec := { name := "fnIn", fn := fun _ => fun
  | [d] => { results := [.lit (.bool true)], args := [d] }
  | _ => none }
def fnInRow : OpenClaim := { program := "ytllnkjkoihmifaa", sum := "401002e481382d584c4bd1b1842b08272bf8a3960e633128cb75da08928e5fa8", func := "loop.example/lib-unicodetables/laws.FnIn", spec := "fnIn", apart := false }
def FnInSaid : Prop := fnInRow.holds Try.pinned (OpenSpec.ofChange fnInSpec)

/-- ITS FALSE NEIGHBOUR: 'it returns false'. Refute it at one input. -/
def fnInWrong : ChangeSpec := { name := "fnIn", fn := fun _ => fun
  | [d] => { results := [.lit (.bool false)], args := [d] }
  | _ => none }
def FnInWrongFalsely : Prop := fnInRow.holds Try.pinned (OpenSpec.ofChange fnInWrong)

/-- 'laws.FnIsOneOf': WHATEVER THE INPUT: true; the input reads as it did. -/
def fnIsOneOfSpec : ChangeSpec := { name := "fnIsOneOf", fn := fun _ => fun
  | [d] => { results := [.lit (.bool true)], args := [d] }
  | _ => none }
def fnIsOneOfRow : OpenClaim := { program := "ytllnkjkoihmifaa", sum := "401002e481382d584c4bd1b1842b08272bf8a3960e633128cb75da08928e5fa8", func := "loop.example/lib-unicodetables/laws.FnIsOneOf", spec := "fnIsOneOf", apart := false }
def FnIsOneOfSaid : Prop := fnIsOneOfRow.holds Try.pinned (OpenSpec.ofChange fnIsOneOfSpec)

/-- ITS FALSE NEIGHBOUR: 'it returns false'. Refute it at one input. -/
def fnIsOneOfWrong : ChangeSpec := { name := "fnIsOneOf", fn := fun _ => fun
  | [d] => { results := [.lit (.bool false)], args := [d] }
  | _ => none }
def FnIsOneOfWrongFalsely : Prop := fnIsOneOfRow.holds Try.pinned (OpenSpec.ofChange fnIsOneOfWrong)

/-- 'laws.FnInIs': WHATEVER THE INPUT: true; the input reads as it did. -/
def fnInIsSpec : ChangeSpec := { name := "fnInIs", fn := fun _ => fun
  | [d] => { results := [.lit (.bool true)], args := [d] }
  | _ => none }
def fnInIsRow : OpenClaim := { program := "ytllnkjkoihmifaa", sum := "401002e481382d584c4bd1b1842b08272bf8a3960e633128cb75da08928e5fa8", func := "loop.example/lib-unicodetables/laws.FnInIs", spec := "fnInIs", apart := false }
def FnInIsSaid : Prop := fnInIsRow.holds Try.pinned (OpenSpec.ofChange fnInIsSpec)

/-- ITS FALSE NEIGHBOUR: 'it returns false'. Refute it at one input. -/
def fnInIsWrong : ChangeSpec := { name := "fnInIs", fn := fun _ => fun
  | [d] => { results := [.lit (.bool false)], args := [d] }
  | _ => none }
def FnInIsWrongFalsely : Prop := fnInIsRow.holds Try.pinned (OpenSpec.ofChange fnInIsWrong)

/-- 'laws.FnInNone': WHATEVER THE INPUT: true; the input reads as it did. -/
def fnInNoneSpec : ChangeSpec := { name := "fnInNone", fn := fun _ => fun
  | [d] => { results := [.lit (.bool true)], args := [d] }
  | _ => none }
def fnInNoneRow : OpenClaim := { program := "ytllnkjkoihmifaa", sum := "401002e481382d584c4bd1b1842b08272bf8a3960e633128cb75da08928e5fa8", func := "loop.example/lib-unicodetables/laws.FnInNone", spec := "fnInNone", apart := false }
def FnInNoneSaid : Prop := fnInNoneRow.holds Try.pinned (OpenSpec.ofChange fnInNoneSpec)

/-- ITS FALSE NEIGHBOUR: 'it returns false'. Refute it at one input. -/
def fnInNoneWrong : ChangeSpec := { name := "fnInNone", fn := fun _ => fun
  | [d] => { results := [.lit (.bool false)], args := [d] }
  | _ => none }
def FnInNoneWrongFalsely : Prop := fnInNoneRow.holds Try.pinned (OpenSpec.ofChange fnInNoneWrong)

/-- 'laws.FnInTurned': WHATEVER THE INPUT: true; the input reads as it did. -/
def fnInTurnedSpec : ChangeSpec := { name := "fnInTurned", fn := fun _ => fun
  | [d] => { results := [.lit (.bool true)], args := [d] }
  | _ => none }
def fnInTurnedRow : OpenClaim := { program := "ytllnkjkoihmifaa", sum := "401002e481382d584c4bd1b1842b08272bf8a3960e633128cb75da08928e5fa8", func := "loop.example/lib-unicodetables/laws.FnInTurned", spec := "fnInTurned", apart := false }
def FnInTurnedSaid : Prop := fnInTurnedRow.holds Try.pinned (OpenSpec.ofChange fnInTurnedSpec)

/-- ITS FALSE NEIGHBOUR: 'it returns false'. Refute it at one input. -/
def fnInTurnedWrong : ChangeSpec := { name := "fnInTurned", fn := fun _ => fun
  | [d] => { results := [.lit (.bool false)], args := [d] }
  | _ => none }
def FnInTurnedWrongFalsely : Prop := fnInTurnedRow.holds Try.pinned (OpenSpec.ofChange fnInTurnedWrong)

/-- 'laws.FnInTwice': WHATEVER THE INPUT: true; the input reads as it did. -/
def fnInTwiceSpec : ChangeSpec := { name := "fnInTwice", fn := fun _ => fun
  | [d] => { results := [.lit (.bool true)], args := [d] }
  | _ => none }
def fnInTwiceRow : OpenClaim := { program := "ytllnkjkoihmifaa", sum := "401002e481382d584c4bd1b1842b08272bf8a3960e633128cb75da08928e5fa8", func := "loop.example/lib-unicodetables/laws.FnInTwice", spec := "fnInTwice", apart := false }
def FnInTwiceSaid : Prop := fnInTwiceRow.holds Try.pinned (OpenSpec.ofChange fnInTwiceSpec)

/-- ITS FALSE NEIGHBOUR: 'it returns false'. Refute it at one input. -/
def fnInTwiceWrong : ChangeSpec := { name := "fnInTwice", fn := fun _ => fun
  | [d] => { results := [.lit (.bool false)], args := [d] }
  | _ => none }
def FnInTwiceWrongFalsely : Prop := fnInTwiceRow.holds Try.pinned (OpenSpec.ofChange fnInTwiceWrong)

/-- 'laws.FnInParts': WHATEVER THE INPUT: true; the input reads as it did. -/
def fnInPartsSpec : ChangeSpec := { name := "fnInParts", fn := fun _ => fun
  | [d] => { results := [.lit (.bool true)], args := [d] }
  | _ => none }
def fnInPartsRow : OpenClaim := { program := "ytllnkjkoihmifaa", sum := "401002e481382d584c4bd1b1842b08272bf8a3960e633128cb75da08928e5fa8", func := "loop.example/lib-unicodetables/laws.FnInParts", spec := "fnInParts", apart := false }
def FnInPartsSaid : Prop := fnInPartsRow.holds Try.pinned (OpenSpec.ofChange fnInPartsSpec)

/-- ITS FALSE NEIGHBOUR: 'it returns false'. Refute it at one input. -/
def fnInPartsWrong : ChangeSpec := { name := "fnInParts", fn := fun _ => fun
  | [d] => { results := [.lit (.bool false)], args := [d] }
  | _ => none }
def FnInPartsWrongFalsely : Prop := fnInPartsRow.holds Try.pinned (OpenSpec.ofChange fnInPartsWrong)

/-- 'laws.FnInMerged': WHATEVER THE INPUT: true; the input reads as it did. -/
def fnInMergedSpec : ChangeSpec := { name := "fnInMerged", fn := fun _ => fun
  | [d] => { results := [.lit (.bool true)], args := [d] }
  | _ => none }
def fnInMergedRow : OpenClaim := { program := "ytllnkjkoihmifaa", sum := "401002e481382d584c4bd1b1842b08272bf8a3960e633128cb75da08928e5fa8", func := "loop.example/lib-unicodetables/laws.FnInMerged", spec := "fnInMerged", apart := false }
def FnInMergedSaid : Prop := fnInMergedRow.holds Try.pinned (OpenSpec.ofChange fnInMergedSpec)

/-- ITS FALSE NEIGHBOUR: 'it returns false'. Refute it at one input. -/
def fnInMergedWrong : ChangeSpec := { name := "fnInMerged", fn := fun _ => fun
  | [d] => { results := [.lit (.bool false)], args := [d] }
  | _ => none }
def FnInMergedWrongFalsely : Prop := fnInMergedRow.holds Try.pinned (OpenSpec.ofChange fnInMergedWrong)

/-- 'laws.FnInMore': WHATEVER THE INPUT: true; the input reads as it did. -/
def fnInMoreSpec : ChangeSpec := { name := "fnInMore", fn := fun _ => fun
  | [d] => { results := [.lit (.bool true)], args := [d] }
  | _ => none }
def fnInMoreRow : OpenClaim := { program := "ytllnkjkoihmifaa", sum := "401002e481382d584c4bd1b1842b08272bf8a3960e633128cb75da08928e5fa8", func := "loop.example/lib-unicodetables/laws.FnInMore", spec := "fnInMore", apart := false }
def FnInMoreSaid : Prop := fnInMoreRow.holds Try.pinned (OpenSpec.ofChange fnInMoreSpec)

/-- ITS FALSE NEIGHBOUR: 'it returns false'. Refute it at one input. -/
def fnInMoreWrong : ChangeSpec := { name := "fnInMore", fn := fun _ => fun
  | [d] => { results := [.lit (.bool false)], args := [d] }
  | _ => none }
def FnInMoreWrongFalsely : Prop := fnInMoreRow.holds Try.pinned (OpenSpec.ofChange fnInMoreWrong)

/-- 'laws.FnIsOneOfIn': WHATEVER THE INPUT: true; the input reads as it did. -/
def fnIsOneOfInSpec : ChangeSpec := { name := "fnIsOneOfIn", fn := fun _ => fun
  | [d] => { results := [.lit (.bool true)], args := [d] }
  | _ => none }
def fnIsOneOfInRow : OpenClaim := { program := "ytllnkjkoihmifaa", sum := "401002e481382d584c4bd1b1842b08272bf8a3960e633128cb75da08928e5fa8", func := "loop.example/lib-unicodetables/laws.FnIsOneOfIn", spec := "fnIsOneOfIn", apart := false }
def FnIsOneOfInSaid : Prop := fnIsOneOfInRow.holds Try.pinned (OpenSpec.ofChange fnIsOneOfInSpec)

/-- ITS FALSE NEIGHBOUR: 'it returns false'. Refute it at one input. -/
def fnIsOneOfInWrong : ChangeSpec := { name := "fnIsOneOfIn", fn := fun _ => fun
  | [d] => { results := [.lit (.bool false)], args := [d] }
  | _ => none }
def FnIsOneOfInWrongFalsely : Prop := fnIsOneOfInRow.holds Try.pinned (OpenSpec.ofChange fnIsOneOfInWrong)

/- THE SECOND FORM. 'bulk': how many values and letters a reading holds, each counted each time it is reached (what is shared counts as often as it is met; a slice's spare places count too). A statement '..UptoSaid' is the law's where the arguments, and the package variables that the reading takes, are together of bulk at most 1048576: NARROWER than '..Said'. Prove '..Said' where nothing that the law and all that it calls make is longer than what came in: it says more and counts as full. Else prove '..UptoSaid'. A law counts once. -/
mutual
def uptoBulk {H : Type} : DataW H → Nat
  | .lit (.string bytes) => bytes.length + 1
  | .lit _ => 1
  | .nil => 1
  | .ptr d => uptoBulk d + 1
  | .slice elems spare => uptoBulkAll elems + uptoBulkAll spare + 1
  | .agg parts => uptoBulkAll parts + 1
  | .iface _ d => uptoBulk d + 1
  | .map entries => uptoBulkEntries entries + 1
  | .held _ => 1
def uptoBulkAll {H : Type} : List (DataW H) → Nat
  | [] => 0
  | d :: r => uptoBulk d + uptoBulkAll r
def uptoBulkEntries {H : Type} : List (Lit × DataW H) → Nat
  | [] => 0
  | x :: r => uptoBulkEntry x + uptoBulkEntries r
def uptoBulkEntry {H : Type} : Lit × DataW H → Nat
  | (.string bytes, d) => bytes.length + uptoBulk d + 1
  | (_, d) => uptoBulk d + 1
 end
def uptoSmall : (H : Type) → List (DataW H) → Bool := fun _ ds => decide (uptoBulkAll ds ≤ 1048576)
def OpenSpec.upto (s : _root_.Go.ChangeSpec) : _root_.Go.OpenSpec := { _root_.Go.OpenSpec.ofChange s with cond := some uptoSmall }

/-- 'laws.FnIn', WHERE WHAT IT READS IS OF BULK AT MOST 1048576: true; the input reads as it did. -/
def fnInUptoRow : OpenClaim := { program := "ytllnkjkoihmifaa", sum := "401002e481382d584c4bd1b1842b08272bf8a3960e633128cb75da08928e5fa8", func := "loop.example/lib-unicodetables/laws.FnIn", spec := "fnIn", apart := false, narrowed := true }
def FnInUptoSaid : Prop := fnInUptoRow.holds Try.pinned (OpenSpec.upto fnInSpec)

/-- 'laws.FnIsOneOf', WHERE WHAT IT READS IS OF BULK AT MOST 1048576: true; the input reads as it did. -/
def fnIsOneOfUptoRow : OpenClaim := { program := "ytllnkjkoihmifaa", sum := "401002e481382d584c4bd1b1842b08272bf8a3960e633128cb75da08928e5fa8", func := "loop.example/lib-unicodetables/laws.FnIsOneOf", spec := "fnIsOneOf", apart := false, narrowed := true }
def FnIsOneOfUptoSaid : Prop := fnIsOneOfUptoRow.holds Try.pinned (OpenSpec.upto fnIsOneOfSpec)

/-- 'laws.FnInIs', WHERE WHAT IT READS IS OF BULK AT MOST 1048576: true; the input reads as it did. -/
def fnInIsUptoRow : OpenClaim := { program := "ytllnkjkoihmifaa", sum := "401002e481382d584c4bd1b1842b08272bf8a3960e633128cb75da08928e5fa8", func := "loop.example/lib-unicodetables/laws.FnInIs", spec := "fnInIs", apart := false, narrowed := true }
def FnInIsUptoSaid : Prop := fnInIsUptoRow.holds Try.pinned (OpenSpec.upto fnInIsSpec)

/-- 'laws.FnInNone', WHERE WHAT IT READS IS OF BULK AT MOST 1048576: true; the input reads as it did. -/
def fnInNoneUptoRow : OpenClaim := { program := "ytllnkjkoihmifaa", sum := "401002e481382d584c4bd1b1842b08272bf8a3960e633128cb75da08928e5fa8", func := "loop.example/lib-unicodetables/laws.FnInNone", spec := "fnInNone", apart := false, narrowed := true }
def FnInNoneUptoSaid : Prop := fnInNoneUptoRow.holds Try.pinned (OpenSpec.upto fnInNoneSpec)

/-- 'laws.FnInTurned', WHERE WHAT IT READS IS OF BULK AT MOST 1048576: true; the input reads as it did. -/
def fnInTurnedUptoRow : OpenClaim := { program := "ytllnkjkoihmifaa", sum := "401002e481382d584c4bd1b1842b08272bf8a3960e633128cb75da08928e5fa8", func := "loop.example/lib-unicodetables/laws.FnInTurned", spec := "fnInTurned", apart := false, narrowed := true }
def FnInTurnedUptoSaid : Prop := fnInTurnedUptoRow.holds Try.pinned (OpenSpec.upto fnInTurnedSpec)

/-- 'laws.FnInTwice', WHERE WHAT IT READS IS OF BULK AT MOST 1048576: true; the input reads as it did. -/
def fnInTwiceUptoRow : OpenClaim := { program := "ytllnkjkoihmifaa", sum := "401002e481382d584c4bd1b1842b08272bf8a3960e633128cb75da08928e5fa8", func := "loop.example/lib-unicodetables/laws.FnInTwice", spec := "fnInTwice", apart := false, narrowed := true }
def FnInTwiceUptoSaid : Prop := fnInTwiceUptoRow.holds Try.pinned (OpenSpec.upto fnInTwiceSpec)

/-- 'laws.FnInParts', WHERE WHAT IT READS IS OF BULK AT MOST 1048576: true; the input reads as it did. -/
def fnInPartsUptoRow : OpenClaim := { program := "ytllnkjkoihmifaa", sum := "401002e481382d584c4bd1b1842b08272bf8a3960e633128cb75da08928e5fa8", func := "loop.example/lib-unicodetables/laws.FnInParts", spec := "fnInParts", apart := false, narrowed := true }
def FnInPartsUptoSaid : Prop := fnInPartsUptoRow.holds Try.pinned (OpenSpec.upto fnInPartsSpec)

/-- 'laws.FnInMerged', WHERE WHAT IT READS IS OF BULK AT MOST 1048576: true; the input reads as it did. -/
def fnInMergedUptoRow : OpenClaim := { program := "ytllnkjkoihmifaa", sum := "401002e481382d584c4bd1b1842b08272bf8a3960e633128cb75da08928e5fa8", func := "loop.example/lib-unicodetables/laws.FnInMerged", spec := "fnInMerged", apart := false, narrowed := true }
def FnInMergedUptoSaid : Prop := fnInMergedUptoRow.holds Try.pinned (OpenSpec.upto fnInMergedSpec)

/-- 'laws.FnInMore', WHERE WHAT IT READS IS OF BULK AT MOST 1048576: true; the input reads as it did. -/
def fnInMoreUptoRow : OpenClaim := { program := "ytllnkjkoihmifaa", sum := "401002e481382d584c4bd1b1842b08272bf8a3960e633128cb75da08928e5fa8", func := "loop.example/lib-unicodetables/laws.FnInMore", spec := "fnInMore", apart := false, narrowed := true }
def FnInMoreUptoSaid : Prop := fnInMoreUptoRow.holds Try.pinned (OpenSpec.upto fnInMoreSpec)

/-- 'laws.FnIsOneOfIn', WHERE WHAT IT READS IS OF BULK AT MOST 1048576: true; the input reads as it did. -/
def fnIsOneOfInUptoRow : OpenClaim := { program := "ytllnkjkoihmifaa", sum := "401002e481382d584c4bd1b1842b08272bf8a3960e633128cb75da08928e5fa8", func := "loop.example/lib-unicodetables/laws.FnIsOneOfIn", spec := "fnIsOneOfIn", apart := false, narrowed := true }
def FnIsOneOfInUptoSaid : Prop := fnIsOneOfInUptoRow.holds Try.pinned (OpenSpec.upto fnIsOneOfInSpec)

end Rows
end Go.Proofs.Ytllnkjkoihmifaa
