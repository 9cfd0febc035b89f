/- Numbers of 32 bits in memory: what a slice of them reads as. -/
import Derived.Test.YtnhmacmpobkdoaaDrawL
import Derived.Test.YtnhmacmpobkdoaaMk
namespace Go.Proofs.Ytnhmacmpobkdoaa
open Go.RowKit
set_option linter.unusedVariables false

/-- The slice at A holds the numbers zs, below block B. -/
def Rn (w : World) (B : Nat) (A : Option Addr) (zs : List Int) : Prop :=
  0 < zs.length → ∃ b off, A = some ⟨b, off, none⟩ ∧ b < B ∧ ∀ i z, zs[i]? = some z → w.cell? ⟨b, off + i, none⟩ = some (.int .i32 z)
section
variable {w w' : World} {B B' : Nat} {A : Option Addr} {zs : List Int}
theorem Rn.nil : Rn w B A [] := fun h => by simp at h
theorem Rn.at_ {i : Nat} (h : Rn w B A zs) (hi : i < zs.length) : ∃ b off z, A = some ⟨b, off, none⟩ ∧ b < B ∧ zs[i]? = some z ∧ w.cell? ⟨b, off + i, none⟩ = some (.int .i32 z) := by
  obtain ⟨b, off, e, hb, hc⟩ := h (by omega)
  have hx : zs[i]? = some zs[i] := List.getElem?_eq_getElem hi
  exact ⟨b, off, zs[i], e, hb, hx, hc i _ hx⟩
theorem Rn.keep (h : Rn w B A zs) (hk : ∀ p : Addr, p.block < B → w'.cell? p = w.cell? p) : Rn w' B A zs := fun hn => by
  obtain ⟨b, off, e, hb, hc⟩ := h hn
  exact ⟨b, off, e, hb, fun i z hz => (hk _ hb).trans (hc i z hz)⟩
theorem Rn.more (h : Rn w B A zs) (hB : B ≤ B') : Rn w B' A zs := fun hn => by
  obtain ⟨b, off, e, hb, hc⟩ := h hn
  exact ⟨b, off, e, by omega, hc⟩
theorem Rn.below (h : Rn w B A zs) (hb : Below B w w') : Rn w' B A zs := h.keep fun _ hp => hb.cell hp
theorem Rn.to (h : Rn w w.heap.size A zs) (hb : Below w.heap.size w w') : Rn w' w'.heap.size A zs := (h.below hb).more hb.size
end
theorem Runes.rn {B : Nat} {A' : Option Addr} {c' : Nat} {zs : List Int} {wr : World} (h : Runes B A' c' zs wr) : Rn wr wr.heap.size A' zs := fun hl => by
  obtain ⟨g, y, hA, hB, hg, _⟩ := h.at_ hl
  refine ⟨g, 0, hA, hg, fun i z hz => ?_⟩
  obtain ⟨g', y', hA', _, _, hy, hc, _⟩ := h.at_ (m := i) (List.getElem?_eq_some_iff.1 hz).1
  rw [hA] at hA'
  injection hA' with hA'
  injection hA' with e1
  subst e1
  rw [hz] at hy
  injection hy with hy
  subst hy
  rw [Nat.zero_add]
  exact hc
theorem Cps.at_ {zs : List Int} {i : Nat} {z : Int} (h : Cps zs) (hz : zs[i]? = some z) : 0 ≤ z ∧ z ≤ 1114111 := h z (List.mem_of_getElem? hz)
theorem drop_consI {zs : List Int} {i : Nat} {z : Int} (h : zs[i]? = some z) : zs.drop i = z :: zs.drop (i + 1) := by
  obtain ⟨hi, rfl⟩ := List.getElem?_eq_some_iff.1 h
  exact List.drop_eq_getElem_cons hi
theorem of_lt {zs : List Int} {i : Nat} {z : Int} {l m : List Rg} (hz : zs[i]? = some z) (h : z < 65536) (h1 : l ++ ofA (zs.drop i) = ofA zs) (h2 : m ++ ofB (zs.drop i) = ofB zs) :
    (l ++ [⟨z, z, 1⟩]) ++ ofA (zs.drop (i + 1)) = ofA zs ∧ m ++ ofB (zs.drop (i + 1)) = ofB zs := by
  rw [drop_consI hz, ofA_cons_lt _ h] at h1
  rw [drop_consI hz, ofB_cons_lt _ h] at h2
  exact ⟨by simpa [one1] using h1, h2⟩
theorem of_ge {zs : List Int} {i : Nat} {z : Int} {l m : List Rg} (hz : zs[i]? = some z) (h : 65536 ≤ z) (h1 : l ++ ofA (zs.drop i) = ofA zs) (h2 : m ++ ofB (zs.drop i) = ofB zs) :
    l ++ ofA (zs.drop (i + 1)) = ofA zs ∧ (m ++ [⟨z, z, 1⟩]) ++ ofB (zs.drop (i + 1)) = ofB zs := by
  rw [drop_consI hz, ofA_cons_ge _ h] at h1
  rw [drop_consI hz, ofB_cons_ge _ h] at h2
  exact ⟨h1, by simpa [one1] using h2⟩
theorem of_end {zs : List Int} {i : Nat} {l m : List Rg} (hi : i ≤ zs.length) (hn : ¬ i < zs.length) (h1 : l ++ ofA (zs.drop i) = ofA zs) (h2 : m ++ ofB (zs.drop i) = ofB zs) : l = ofA zs ∧ m = ofB zs := by
  rw [show i = zs.length from by omega, List.drop_length] at h1 h2
  exact ⟨by simpa [ofA] using h1, by simpa [ofB] using h2⟩
/-- A table that has just been begun in a function without a box for its argument. -/
theorem Mk.begin0 (w : World) : Mk w w.heap.size w.heap.size (w.heap.size + 1 + 1 + 1) #[.slice none 0 0, .slice none 0 0, .int .i64 0] #[.slice none 0 0, .slice none 0 0, .int .i64 0] (some ⟨w.heap.size + 1, 0, none⟩) 0 [] (some ⟨w.heap.size + 1 + 1, 0, none⟩) 0 []
    ((((w.alloc (.cells #[.slice none 0 0, .slice none 0 0, .int .i64 0] 27)).alloc (.cells #[] 39)).alloc (.cells #[] 65)).alloc (.cells #[.slice (some ⟨w.heap.size + 1, 0, none⟩) 0 0, .slice (some ⟨w.heap.size + 1 + 1, 0, none⟩) 0 0, .int .i64 0] 27)) := by
  refine Mk.start ((((Bk.new w _ _).alloc _).alloc _).alloc _) ((((Bk.new w _ _).alloc _).alloc _).alloc _) ?_ ?_ ?_ (by omega) (by omega) (by omega) (by omega) (by omega) (by omega) ?_
  · have := Bk.new (((w.alloc (.cells #[.slice none 0 0, .slice none 0 0, .int .i64 0] 27)).alloc (.cells #[] 39)).alloc (.cells #[] 65)) 27 #[.slice (some ⟨w.heap.size + 1, 0, none⟩) 0 0, .slice (some ⟨w.heap.size + 1 + 1, 0, none⟩) 0 0, .int .i64 0]
    simp only [World.size_alloc] at this
    exact this
  · have := Bk.new (w.alloc (.cells #[.slice none 0 0, .slice none 0 0, .int .i64 0] 27)) 39 #[]
    simp only [World.size_alloc] at this
    exact (this.alloc _).alloc _
  · have := Bk.new ((w.alloc (.cells #[.slice none 0 0, .slice none 0 0, .int .i64 0] 27)).alloc (.cells #[] 39)) 65 #[]
    simp only [World.size_alloc] at this
    exact this.alloc _
  · exact ((((Below.refl _ _).alloc (Nat.le_refl _) _).alloc (by simp) _).alloc (by simp; omega) _).alloc (by simp; omega) _
end Go.Proofs.Ytnhmacmpobkdoaa
