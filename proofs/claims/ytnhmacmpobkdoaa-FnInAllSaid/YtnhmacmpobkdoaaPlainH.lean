/- Plain facts: what lies between the ranges of a table with strides of 1 is all that is not in it. No program occurs here. -/
import Derived.Test.YtnhmacmpobkdoaaPlainE
namespace Go.Proofs.Ytnhmacmpobkdoaa
set_option linter.unusedVariables false
theorem rest_out {p q : List Rg} {n r : Int} (u1 : Srt 0 65535 p) (u2 : Srt 65536 1114111 q) (h : r < 0 ∨ 1114111 < r) : isB ⟨p, q, n⟩ r = false := by
  have h1 : memB p r = false := by
    rcases h with h | h
    · exact mem_neg u1 h
    · exact mem_over u1 (by omega)
  have h2 : memB q r = false := by
    rcases h with h | h
    · exact mem_neg u2 (by omega)
    · exact mem_over u2 h
  simp [isB, h1, h2]
theorem rest_in {p q : List Rg} {n m r : Int} (u1 : Srt 0 65535 p) (u2 : Srt 65536 1114111 q) (s1 : St1 p) (s2 : St1 q) (h0 : 0 ≤ r) (h1 : r ≤ 1114111) :
    isB ⟨gapsL 65535 0 p, gapsL 1114111 65536 q, m⟩ r = !isB ⟨p, q, n⟩ r := by
  have g1 := (srt_gapsL u1.srtR).srt
  have g2 := (srt_gapsL u2.srtR).srt
  by_cases h : r ≤ 65535
  · rw [isB_lower g2 (by omega), isB_lower u2 (by omega), mem_gapsL u1.srtR s1 h0 h]
  · rw [isB_upper g1 (by omega), isB_upper u1 (by omega), mem_gapsL u2.srtR s2 (by omega) h1]
end Go.Proofs.Ytnhmacmpobkdoaa
