/- A table of ranges of 16 bits alone, in its box while ranges are added to it. -/
import Derived.Test.YtnhmacmpobkdoaaMk
import Derived.Test.YtnhmacmpobkdoaaPlainL
namespace Go.Proofs.Ytnhmacmpobkdoaa
open Go.RowKit
set_option linter.unusedVariables false

/-- The table at block X: its list lies in a row of the call's own; there is no other list. -/
def Few (w : World) (X : Nat) (A : Option Addr) (c : Nat) (l : List Rg) (wr : World) : Prop :=
  w.heap.size ≤ X ∧ Bk wr X 27 #[.slice A l.length c, .slice none 0 0, .int .i64 0] ∧
    wr.ownsRow w.heap.size 39 3 (.slice A l.length c) l.length (cellsL .u16 l) ∧ Wf 65536 l ∧ Below w.heap.size w wr
section
variable {w wr w1 : World} {X : Nat} {A : Option Addr} {c : Nat} {l : List Rg}
theorem Few.bel (h : Few w X A c l wr) : Below w.heap.size w wr := h.2.2.2.2
theorem Few.bk (h : Few w X A c l wr) : Bk wr X 27 #[.slice A l.length c, .slice none 0 0, .int .i64 0] := h.2.1
theorem Few.own (h : Few w X A c l wr) : wr.ownsRow w.heap.size 39 3 (.slice A l.length c) l.length (cellsL .u16 l) := h.2.2.1
theorem Few.rd (h : Few w X A c l wr) : Rd wr wr.heap.size .u16 65536 A l := own_rd h.own rfl h.2.2.2.1
theorem Few.below (h : Few w X A c l wr) (hb : Below wr.heap.size wr w1) : Few w X A c l w1 :=
  ⟨h.1, h.bk.below hb h.bk.lt, own_below h.own hb, h.2.2.2.1, h.bel.trans (hb.mono h.bel.size)⟩
theorem Few.alloc (h : Few w X A c l wr) (o : Obj) : Few w X A c l (wr.alloc o) := h.below ((Below.refl _ _).alloc (Nat.le_refl _) o)
theorem Few.drew (h : Few w X A c l wr) : Few w X A c l wr.drew := h.below (Below.refl _ _).drew
/-- One more range. -/
theorem Few.push {x : Rg} {A2 : Option Addr} {cap : Nat} (h : Few w X A c l wr) (hx : 0 ≤ x.lo ∧ x.lo < 65536 ∧ 0 ≤ x.hi ∧ x.hi < 65536 ∧ 0 ≤ x.st ∧ x.st < 65536)
    (hown : w1.ownsRow w.heap.size 39 3 (.slice A2 (l.length + 1) cap) (l.length + 1) (cellsL .u16 l ++ [.int .u16 x.lo, .int .u16 x.hi, .int .u16 x.st])) (hgrow : wr.grownBy w1 (Value.slice A l.length c).ownBlock) :
    w1.cell? ⟨X, 0, none⟩ = some (.slice A l.length c) ∧ w1.frozen? ⟨X, 0, none⟩ = false ∧ Few w X A2 cap (l ++ [x]) (w1.setCell ⟨X, 0, none⟩ (.slice A2 (l.length + 1) cap)) := by
  have hB : Below w.heap.size w w1 := h.bel.grown hgrow h.bel.size (own_ge h.own)
  have hX := h.bk.grown hgrow (own_bk h.own h.bk (by decide))
  have hs := (Only.refl X w1).store 0 (.slice A2 (l.length + 1) cap)
  refine ⟨hX.cell 0, hX.frozen 0, h.1, ?_, ?_, wf_snoc h.2.2.2.1 hx, hB.setCell h.1 _⟩
  · rw [List.length_append]; exact hX.set_ 0 _
  · rw [cellsL_snoc, List.length_append]; exact own_only hown hX (by decide) hs
/-- Its number of Latin ranges is stored. -/
theorem Few.done (h : Few w X A c l wr) (z : Int) : Bk (wr.setCell ⟨X, 2, none⟩ (.int .i64 z)) X 27 #[.slice A l.length c, .slice none 0 0, .int .i64 z] ∧
    Rd (wr.setCell ⟨X, 2, none⟩ (.int .i64 z)) (wr.setCell ⟨X, 2, none⟩ (.int .i64 z)).heap.size .u16 65536 A l ∧ Below w.heap.size w (wr.setCell ⟨X, 2, none⟩ (.int .i64 z)) :=
  ⟨h.bk.set_ 2 _, own_rd (own_only h.own h.bk (by decide) ((Only.refl X wr).store 2 _)) rfl h.2.2.2.1, h.bel.setCell h.1 _⟩
end
/-- A table that has just been begun. -/
theorem Few.begin {W wg : World} (hq : Below W.heap.size W wg) : Few W (wg.heap.size + 1) (some ⟨wg.heap.size, 0, none⟩) 0 []
    ((wg.alloc (.cells #[] 39)).alloc (.cells #[.slice (some ⟨wg.heap.size, 0, none⟩) 0 0, .slice none 0 0, .int .i64 0] 27)) := by
  have hs := hq.size
  refine ⟨by omega, bk_at (by simp) _ _, own_empty hs ((Bk.new wg _ _).alloc _), (fun x hx => by cases hx), (hq.alloc hs _).alloc (by simp; omega) _⟩
end Go.Proofs.Ytnhmacmpobkdoaa
