/- More for spec.Sorted: parts of a row of numbers as sources of appends. -/
import Derived.Test.YtnhmacmpobkdoaaIns
namespace Go.Proofs.Ytnhmacmpobkdoaa
open Go.RowKit
set_option linter.unusedVariables false
theorem at_world {P : Program} {c : Code} {Q : Exit → Act → World → Prop} {a : Act} {W : World} {R : World → Prop} (hR : R W) (h : ∀ wd, R wd → Code.wp P c Q a wd) : Code.wp P c Q a W := h W hR
theorem runes_cell {B g co : Nat} {os : List Int} {wd W : World} (h : Runes B (some ⟨g, 0, none⟩) co os wd) (hb : Below wd.heap.size wd W) {i : Nat} {z : Int} (hz : os[i]? = some z) : W.cell? ⟨g, i, none⟩ = some (.int .i32 z) := by
  obtain ⟨g', y, e, _, hg, hy, hc, _⟩ := h.at_ (List.getElem?_eq_some_iff.1 hz).1
  injection e with e
  injection e with e1
  subst e1
  rw [hz] at hy
  injection hy with hy
  subst hy
  exact (hb.cell (p := ⟨g, i, none⟩) hg).trans hc
theorem news_take {B g co : Nat} {os : List Int} {wd W : World} (h : Runes B (some ⟨g, 0, none⟩) co os wd) (hb : Below wd.heap.size wd W) (k : Nat) : ∀ ad, some (⟨g, 0, none⟩ : Addr) = some ad → ∀ j u, ((os.take k).map (Value.int .i32))[j]? = some u → W.cell? (ad.add j) = some u := fun ad hA j u hu => by
  injection hA with hA
  subst hA
  rw [List.getElem?_map] at hu
  obtain ⟨z, hz, rfl⟩ := Option.map_eq_some_iff.1 hu
  have hj := (List.getElem?_eq_some_iff.1 hz).1
  rw [List.length_take] at hj
  rw [List.getElem?_take_of_lt (by omega)] at hz
  have ad' : (⟨g, 0, none⟩ : Addr).add j = ⟨g, j, none⟩ := by unfold Addr.add; split <;> simp_all
  rw [ad']
  exact runes_cell h hb hz
theorem news_drop {B g co : Nat} {os : List Int} {wd W : World} (h : Runes B (some ⟨g, 0, none⟩) co os wd) (hb : Below wd.heap.size wd W) (k : Nat) : ∀ ad, some (⟨g, k, none⟩ : Addr) = some ad → ∀ j u, ((os.drop k).map (Value.int .i32))[j]? = some u → W.cell? (ad.add j) = some u := fun ad hA j u hu => by
  injection hA with hA
  subst hA
  rw [List.getElem?_map] at hu
  obtain ⟨z, hz, rfl⟩ := Option.map_eq_some_iff.1 hu
  rw [List.getElem?_drop] at hz
  have ad' : (⟨g, k, none⟩ : Addr).add j = ⟨g, k + j, none⟩ := by unfold Addr.add; split <;> simp_all
  rw [ad']
  exact runes_cell h hb hz
theorem news_none {W : World} {A : Option Addr} : ∀ ad, A = some ad → ∀ j u, ([] : List Value)[j]? = some u → W.cell? (ad.add j) = some u := fun ad _ j u hu => by simp at hu
/-- The new row, read as the list with the number put in. -/
theorem put_done {w wd w4 : World} {A4 : Option Addr} {n cap : Nat} {os : List Int} {k : Nat} {y : Int} {xs : List Value} (hb : Below w.heap.size w wd) (h4 : Below wd.heap.size wd w4) (ho : w4.ownsRow wd.heap.size 21 1 (.slice A4 n cap) n xs) (hn : n = os.length + 1) (hk : k ≤ os.length)
    (hx : xs = (os.take k ++ [y] ++ os.drop k).map (Value.int .i32)) (h32 : I32 os) (hy : -2147483648 ≤ y ∧ y ≤ 2147483647) :
    ∃ g4, A4 = some ⟨g4, 0, none⟩ ∧ n = (os.take k ++ [y] ++ os.drop k).length ∧ Runes w.heap.size (some ⟨g4, 0, none⟩) cap (os.take k ++ [y] ++ os.drop k) w4 ∧ Below w.heap.size w w4 := by
  obtain ⟨g4, cp, hv, _, _⟩ := ho.form (by omega)
  obtain rfl : A4 = some ⟨g4, 0, none⟩ := by injection hv
  have hlen : n = (os.take k ++ [y] ++ os.drop k).length := by rw [List.length_append, List.length_append, List.length_take, List.length_drop, List.length_singleton]; omega
  refine ⟨g4, rfl, hlen, ⟨?_, fun z hz => ?_⟩, hb.trans (h4.mono hb.size)⟩
  · rw [hx] at ho
    exact own_mono (own_len ho hlen) hb.size
  · simp only [List.mem_append, List.mem_singleton] at hz
    rcases hz with (hz | rfl) | hz
    · exact h32 z (List.mem_of_mem_take hz)
    · exact hy
    · exact h32 z (List.mem_of_mem_drop hz)
end Go.Proofs.Ytnhmacmpobkdoaa
