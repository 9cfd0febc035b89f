/- The tables of single ranges of a table, as a list. -/
import Derived.Test.YtnhmacmpobkdoaaLawT
import Derived.Test.YtnhmacmpobkdoaaPlainE
namespace Go.Proofs.Ytnhmacmpobkdoaa
open Go.RowKit
set_option linter.unusedVariables false
def rngT (a b : List Rg) : List Tab := a.map (fun x => ⟨[x], [], latN [x]⟩) ++ b.map (fun x => ⟨[], [x], latN []⟩)
theorem rngT_length (a b : List Rg) : (rngT a b).length = a.length + b.length := by simp [rngT]
theorem rngT_a {a b : List Rg} {k : Nat} (hk : k < a.length) : (rngT a b)[k]? = some ⟨[a.getD k ⟨0, 0, 0⟩], [], latN [a.getD k ⟨0, 0, 0⟩]⟩ := by
  unfold rngT
  rw [List.getElem?_append_left (by simpa using hk), List.getElem?_map, List.getElem?_eq_getElem hk, List.getD_eq_getElem?_getD, List.getElem?_eq_getElem hk]
  rfl
theorem rngT_b {a b : List Rg} {k : Nat} (hk : a.length ≤ k) (hk1 : k - a.length < b.length) : (rngT a b)[k]? = some ⟨[], [b.getD (k - a.length) ⟨0, 0, 0⟩], latN []⟩ := by
  unfold rngT
  rw [List.getElem?_append_right (by simpa using hk), List.length_map, List.getElem?_map, List.getElem?_eq_getElem hk1, List.getD_eq_getElem?_getD, List.getElem?_eq_getElem hk1]
  rfl
theorem rngT_any (a b : List Rg) (n r : Int) : (rngT a b).any (isB · r) = isB ⟨a, b, n⟩ r := by
  unfold rngT
  rw [List.any_append, List.any_map, List.any_map]
  unfold isB memB
  congr 1
  · congr 1
    funext x
    simp [Function.comp]
  · congr 1
    funext x
    simp [Function.comp]
theorem srt1 {L H : Int} (x : Rg) (h0 : x.st ≠ 0) (h1 : x.lo ≤ x.hi) (h2 : L ≤ x.lo) (h3 : x.hi ≤ H) : Srt L H [x] := fun i hi => by
  have : i = 0 := by simp at hi; omega
  subst this
  exact ⟨h0, h1, h2, h3, fun h => absurd h (by omega)⟩
theorem rngT_srt {a b : List Rg} (v1 : Srt 0 65535 a) (v2 : Srt 65536 1114111 b) : SrtT (rngT a b) := fun t ht => by
  unfold rngT at ht
  rcases List.mem_append.1 ht with h | h
  · obtain ⟨x, hx, rfl⟩ := List.mem_map.1 h
    obtain ⟨j, hj, rfl⟩ := mem_getD hx
    obtain ⟨h0, h1, h2, h3, _⟩ := v1 j hj
    exact ⟨srt1 _ h0 h1 h2 h3, srt_nil _ _⟩
  · obtain ⟨x, hx, rfl⟩ := List.mem_map.1 h
    obtain ⟨j, hj, rfl⟩ := mem_getD hx
    obtain ⟨h0, h1, h2, h3, _⟩ := v2 j hj
    exact ⟨srt_nil _ _, srt1 _ h0 h1 h2 h3⟩
/-- The contract of In for a list in a row of the call's own. -/
theorem implIn_Lst {B : Nat} {A' : Option Addr} {c' : Nat} {es : List Ent} {wr : World} (r : Int) (hL : Lst B A' c' es wr) (hl : es.length ≤ 100) (hr0 : -2147483648 ≤ r) (hr1 : r ≤ 2147483647) (hs : SrtT (es.map Ent.t)) :
    Calls Try.prog 15 #[.int .i32 r, .slice A' es.length c'] wr fun e w' => e = .returned (.bool ((es.map Ent.t).any (isB · r))) ∧ Below wr.heap.size wr w' := by
  have h := implIn_any A' c' (es.map Ent.t) r wr hr0 hr1 (by rw [List.length_map]; omega) hs hL.rdT
  rw [List.length_map] at h
  exact h
end Go.Proofs.Ytnhmacmpobkdoaa
