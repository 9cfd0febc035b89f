/- Plain facts: two ascending lists merged; and words for memory that Merged asks for. -/
import Derived.Test.YtnhmacmpobkdoaaMembers
import Derived.Test.YtnhmacmpobkdoaaOf
namespace Go.Proofs.Ytnhmacmpobkdoaa
open Go.RowKit
set_option linter.unusedVariables false
/-- os holds what has been merged; xs and ys are what is left. -/
def MInv (os xs ys X Y : List Int) : Prop := Asc (os ++ xs) ∧ Asc (os ++ ys) ∧ ∀ z, (z ∈ os ∨ z ∈ xs ∨ z ∈ ys) ↔ (z ∈ X ∨ z ∈ Y)
theorem MInv.swap {os xs ys X Y : List Int} (h : MInv os xs ys X Y) : MInv os ys xs Y X := ⟨h.2.1, h.1, fun z => ⟨fun hz => ((h.2.2 z).1 (hz.elim .inl fun k => .inr k.symm)).symm, fun hz => ((h.2.2 z).2 hz.symm).elim .inl fun k => .inr k.symm⟩⟩
theorem MInv.x {os xs ys X Y : List Int} {x : Int} (h : MInv os (x :: xs) ys X Y) (hx : ∀ y ∈ ys, x < y) : MInv (os ++ [x]) xs ys X Y := by
  obtain ⟨h1, h2, h3⟩ := h
  have e : (os ++ [x]) ++ xs = os ++ x :: xs := by simp
  refine ⟨by rw [e]; exact h1, ?_, fun z => ?_⟩
  · refine List.pairwise_append.2 ⟨?_, (List.pairwise_append.1 h2).2.1, fun a ha b hb => ?_⟩
    · rw [← e] at h1; exact (List.pairwise_append.1 h1).1
    · rcases List.mem_append.1 ha with ha | ha
      · exact (List.pairwise_append.1 h2).2.2 a ha b hb
      · rw [List.mem_singleton] at ha; subst ha; exact hx b hb
  · have := h3 z
    simp only [List.mem_cons] at this
    simp only [List.mem_append, List.mem_singleton]
    rw [← this]
    constructor
    · rintro ((h | h) | h | h)
      · exact .inl h
      · exact .inr (.inl (.inl h))
      · exact .inr (.inl (.inr h))
      · exact .inr (.inr h)
    · rintro (h | (h | h) | h)
      · exact .inl (.inl h)
      · exact .inl (.inr h)
      · exact .inr (.inl h)
      · exact .inr (.inr h)
theorem MInv.y {os xs ys X Y : List Int} {y : Int} (h : MInv os xs (y :: ys) X Y) (hy : ∀ x ∈ xs, y < x) : MInv (os ++ [y]) xs ys X Y := (h.swap.x hy).swap
theorem MInv.eq {os xs ys X Y : List Int} {x : Int} (h : MInv os (x :: xs) (x :: ys) X Y) : MInv os xs (x :: ys) X Y := by
  obtain ⟨h1, h2, h3⟩ := h
  refine ⟨?_, h2, fun z => ?_⟩
  · exact h1.sublist (List.Sublist.append (List.Sublist.refl _) (List.sublist_cons_self _ _))
  · have := h3 z
    simp only [List.mem_cons] at this ⊢
    rw [← this]
    constructor
    · rintro (h | h | h)
      · exact .inl h
      · exact .inr (.inl (.inr h))
      · exact .inr (.inr h)
    · rintro (h | (h | h) | h)
      · exact .inl h
      · exact .inr (.inr (.inl h))
      · exact .inr (.inl h)
      · exact .inr (.inr h)
theorem asc_lt {x : Int} {xs : List Int} {os : List Int} (h : Asc (os ++ x :: xs)) {y : Int} (hy : y < x) : ∀ z ∈ x :: xs, y < z := fun z hz => by
  rcases List.mem_cons.1 hz with rfl | hz
  · exact hy
  · have := (List.pairwise_cons.1 (List.pairwise_append.1 h).2.1).1 z hz; omega
theorem Rn.tail {w : World} {B b o : Nat} {x : Int} {xs : List Int} (h : Rn w B (some ⟨b, o, none⟩) (x :: xs)) : Rn w B (some ⟨b, o + 1, none⟩) xs := fun hl => by
  obtain ⟨b', o', e, hb, hc⟩ := h (by simp)
  injection e with e
  injection e with e1 e2
  subst e1 e2
  refine ⟨b, o + 1, rfl, hb, fun i z hz => ?_⟩
  have := hc (i + 1) z (by simpa using hz)
  rw [show o + (i + 1) = o + 1 + i from by omega] at this
  exact this
theorem Rn.head {w : World} {B : Nat} {A : Option Addr} {x : Int} {xs : List Int} (h : Rn w B A (x :: xs)) : ∃ b o, A = some ⟨b, o, none⟩ ∧ b < B ∧ w.cell? ⟨b, o, none⟩ = some (.int .i32 x) := by
  obtain ⟨b, o, e, hb, hc⟩ := h (by simp)
  exact ⟨b, o, e, hb, hc 0 x rfl⟩
def slLen (v : Value) : Nat := match v with | .slice _ n _ => n | _ => 0
/-- What Merged leaves. -/
def MergedP (w : World) (X Y : List Int) (e : Ending) (w' : World) : Prop := ∃ zs : List Int, Asc zs ∧ Cps zs ∧ (∀ z, z ∈ zs ↔ (z ∈ X ∨ z ∈ Y)) ∧ zs.length ≤ 100000000 ∧ Made w (ofA zs) (ofB zs) e w'
/-- A made table is stored into the result's box. -/
theorem made_stored {w wr w3 : World} {Z : Nat} {v0 v1 v2 : Value} {A A' : Option Addr} {c c' : Nat} {l m : List Rg} {n : Int} (hb : Below w.heap.size w wr) (hZ : Bk w3 Z 27 #[v0, v1, v2]) (hZw : w.heap.size ≤ Z) (h3 : Below wr.heap.size wr w3)
    (h16 : w3.ownsRow wr.heap.size 39 3 (.slice A l.length c) l.length (cellsL .u16 l)) (h32 : w3.ownsRow wr.heap.size 65 3 (.slice A' m.length c') m.length (cellsL .u32 m)) (f16 : Wf 65536 l) (f32 : Wf 4294967296 m) (hn : n = latN l) :
    let W := (((w3.setCell ⟨Z, 0, none⟩ (.slice A l.length c)).setCell ⟨Z, 1, none⟩ (.slice A' m.length c')).setCell ⟨Z, 2, none⟩ (.int .i64 n))
    W.cell? ⟨Z, 0, none⟩ = some (.slice A l.length c) ∧ W.cell? ⟨Z, 1, none⟩ = some (.slice A' m.length c') ∧ W.cell? ⟨Z, 2, none⟩ = some (.int .i64 n) ∧ Made w l m (.returned (.agg #[.slice A l.length c, .slice A' m.length c', .int .i64 n])) W := by
  have o2 := (((Only.refl Z w3).store 0 (.slice A l.length c)).store 1 (.slice A' m.length c')).store 2 (.int .i64 n)
  have hf := ((hZ.set_ 0 (.slice A l.length c)).set_ 1 (.slice A' m.length c')).set_ 2 (.int .i64 n)
  have hb3 := hb.trans (h3.mono hb.size)
  exact ⟨hf.cell 0, hf.cell 1, hf.cell 2, A, c, A', c', by rw [hn], own_mono (own_only h16 hZ (by decide) o2) hb.size, own_mono (own_only h32 hZ (by decide) o2) hb.size, f16, f32, ((hb3.setCell hZw _).setCell hZw _).setCell hZw _⟩
end Go.Proofs.Ytnhmacmpobkdoaa
