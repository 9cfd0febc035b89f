/- The laws' letter: the table of A alone. -/
import Derived.Test.YtnhmacmpobkdoaaLawZ
import Derived.Test.YtnhmacmpobkdoaaTabA
namespace Go.Proofs.Ytnhmacmpobkdoaa
open Go.RowKit
set_option linter.unusedVariables false

theorem srt_A : Srt 0 65535 [⟨65, 65, 1⟩] := fun i hi => by
  have : i = 0 := by simp at hi; omega
  subst this
  exact ⟨by decide, by decide, by decide, by decide, fun h => absurd h (by omega)⟩
theorem srt_nil (L H : Int) : Srt L H [] := fun i hi => by simp at hi

set_option maxHeartbeats 1000000 in
theorem letter_any (w : World) : Calls Try.prog 16 #[] w fun e w' => ∃ (Al : Option Addr) (cl : Nat), e = .returned (.agg #[.slice Al 1 cl, .slice none 0 0, .int .i64 1]) ∧ Rd w' w'.heap.size .u16 65536 Al [⟨65, 65, 1⟩] ∧ Below w.heap.size w w' := by
  go_enter Try.func16, Try.ntmps16
  go_wp2
  have hb := heap_new2 w (.cells #[.slice (some ⟨w.heap.size + 1, 0, none⟩) 1 1, .slice none 0 0, .int .i64 1] 27) (.cells #[.int .u16 65, .int .u16 65, .int .u16 1] 39)
  refine bodyPost_ret (v := .agg #[.slice (some ⟨w.heap.size + 1, 0, none⟩) 1 1, .slice none 0 0, .int .i64 1]) (by simp [results, Try.results16, go_sem]) rfl ⟨some ⟨w.heap.size + 1, 0, none⟩, 1, rfl, ?_, ?_⟩
  · refine ⟨?_, fun _ => ⟨w.heap.size + 1, 0, rfl, by simp, fun i x hx => ?_⟩⟩
    · intro x hx
      rw [List.mem_singleton] at hx
      subst hx
      exact ⟨by decide, by decide, by decide, by decide, by decide, by decide⟩
    · have hi : i = 0 := by
        have := (List.getElem?_eq_some_iff.1 hx).1
        simp at this
        omega
      subst hi
      simp at hx
      subst hx
      have hk : Bk _ (w.heap.size + 1) 39 #[.int .u16 65, .int .u16 65, .int .u16 1] := hb
      exact ⟨hk.cell 0, hk.cell 1, hk.cell 2⟩
  · exact ((Below.refl _ _).alloc (Nat.le_refl _) _).alloc (by simp) _

end Go.Proofs.Ytnhmacmpobkdoaa
