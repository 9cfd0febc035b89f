/- The thin package's table: it lays the ranges of a table into new memory, unchanged. -/
import Derived.Test.YtnhmacmpobkdoaaBlk
import Derived.Test.YtnhmacmpobkdoaaProg
import Derived.Deep.LoopGhost
import Derived.Deep.QuietTactic
import Derived.BigQuiet
import Derived.Deep.DeepMust
import Derived.Deep.RegionLaw
import Derived.Deep.DrawnRows
import Derived.Deep.DeepCutAuto
import Derived.Outline
import Derived.KernelRfl
namespace Go.Proofs.Ytnhmacmpobkdoaa
open Go.RowKit
set_option linter.unusedVariables false
attribute [local go_sem ↓] Go.wp_at_zero Go.wp_at_succ

theorem info_u16 : (Try.prog.info? 79).map (fun i => (i.zero, i.size, i.bytes)) = some (some (.agg #[.int .u16 0, .int .u16 0, .int .u16 0]), 3, 6) := by kernel_rfl
theorem info_u32 : (Try.prog.info? 81).map (fun i => (i.zero, i.size, i.bytes)) = some (some (.agg #[.int .u32 0, .int .u32 0, .int .u32 0]), 3, 12) := by kernel_rfl

/-- A table of the library's in new memory: at block g its three fields, its ranges in rows of their own. -/
def TabP (w : World) (base g : Nat) (A : Option Addr) (c : Nat) (A' : Option Addr) (c' : Nat) (T : Tab) : Prop :=
  base ≤ g ∧ Bk w g 78 #[.slice A T.a.length c, .slice A' T.b.length c', .int .i64 T.n] ∧
    w.ownsRow base 79 3 (.slice A T.a.length c) T.a.length (cellsL .u16 T.a) ∧ w.ownsRow base 81 3 (.slice A' T.b.length c') T.b.length (cellsL .u32 T.b) ∧ Wf 65536 T.a ∧ Wf 4294967296 T.b
section
variable {w w' : World} {base g : Nat} {A A' : Option Addr} {c c' : Nat} {T : Tab}
theorem TabP.below (h : TabP w base g A c A' c' T) (hb : Below w.heap.size w w') : TabP w' base g A c A' c' T :=
  ⟨h.1, h.2.1.below hb h.2.1.lt, own_below h.2.2.1 hb, own_below h.2.2.2.1 hb, h.2.2.2.2⟩
theorem TabP.mono {base' : Nat} (h : TabP w base g A c A' c' T) (hb : base' ≤ base) : TabP w base' g A c A' c' T :=
  ⟨by have := h.1; omega, h.2.1, own_mono h.2.2.1 hb, own_mono h.2.2.2.1 hb, h.2.2.2.2⟩
theorem TabP.grown {base' : Nat} {e : TypeId} {size n : Nat} {v : Value} {xs : List Value} (h : TabP w base g A c A' c' T) (hv : w.ownsRow base' e size v n xs) (hg : w.grownBy w' v.ownBlock)
    (h1 : e ≠ 78) (h2 : e ≠ 79) (h3 : e ≠ 81) : TabP w' base g A c A' c' T :=
  ⟨h.1, h.2.1.grown hg (own_bk hv h.2.1 h1), h.2.2.1.kept hg (own_apart h.2.2.1 hv (Ne.symm h2)), h.2.2.2.1.kept hg (own_apart h.2.2.2.1 hv (Ne.symm h3)), h.2.2.2.2⟩
theorem TabP.rd16 (h : TabP w base g A c A' c' T) : Rd w w.heap.size .u16 65536 A T.a := own_rd h.2.2.1 rfl h.2.2.2.2.1
theorem TabP.rd32 (h : TabP w base g A c A' c' T) : Rd w w.heap.size .u32 4294967296 A' T.b := own_rd h.2.2.2.1 rfl h.2.2.2.2.2
theorem TabP.c0 (h : TabP w base g A c A' c' T) : w.cell? ⟨g, 0, none⟩ = some (.slice A T.a.length c) := by rw [h.2.1.cell]; rfl
theorem TabP.c1 (h : TabP w base g A c A' c' T) : w.cell? ⟨g, 0 + 1, none⟩ = some (.slice A' T.b.length c') := by rw [h.2.1.cell]; rfl
end

/-- What holds when the first i ranges of 16 bits have been laid. -/
def Laid16 (w : World) (A16 A32 : Option Addr) (c16 c32 : Nat) (a b : List Rg) (n : Int) (i : Nat) (A : Option Addr) (c : Nat) (wr : World) : Prop :=
  Bk wr (w.heap.size + 1) 78 #[.slice A i c, .slice none 0 0, .int .i64 n] ∧
    wr.ownsRow (w.heap.size + 2) 79 3 (.slice A i c) i (cellsL .u16 (a.take i)) ∧ Bk wr w.heap.size 27 #[.slice A16 a.length c16, .slice A32 b.length c32, .int .i64 n] ∧ Below w.heap.size w wr
/-- What holds when all ranges of 16 bits and the first i others have been laid. -/
def Laid32 (w : World) (A16 A32 : Option Addr) (c16 c32 : Nat) (a b : List Rg) (n : Int) (A : Option Addr) (c : Nat) (i : Nat) (A' : Option Addr) (c' : Nat) (wr : World) : Prop :=
  Bk wr (w.heap.size + 1) 78 #[.slice A a.length c, .slice A' i c', .int .i64 n] ∧
    wr.ownsRow (w.heap.size + 2) 79 3 (.slice A a.length c) a.length (cellsL .u16 a) ∧
    wr.ownsRow (w.heap.size + 2) 81 3 (.slice A' i c') i (cellsL .u32 (b.take i)) ∧ Bk wr w.heap.size 27 #[.slice A16 a.length c16, .slice A32 b.length c32, .int .i64 n] ∧ Below w.heap.size w wr

theorem laid16_step {w : World} {A16 A32 : Option Addr} {c16 c32 : Nat} {a b : List Rg} {n : Int} {i : Nat} {A : Option Addr} {c : Nat} {wr w1 : World} {o1 o2 : Obj} {x : Rg} {g cap : Nat}
    (h : Laid16 w A16 A32 c16 c32 a b n i A c wr) (hlt : i < a.length) (hx : a.getD i ⟨0, 0, 0⟩ = x)
    (hown : w1.ownsRow (w.heap.size + 2) 79 3 (.slice (some ⟨g, 0, none⟩) (i + 1) cap) (i + 1) (cellsL .u16 (a.take i) ++ [.int .u16 x.lo, .int .u16 x.hi, .int .u16 x.st]))
    (hgrow : ((wr.alloc o1).alloc o2).drew.grownBy w1 (Value.slice A i c).ownBlock) :
    w1.cell? ⟨w.heap.size + 1, 0, none⟩ = some (.slice A i c) ∧ w1.frozen? ⟨w.heap.size + 1, 0, none⟩ = false ∧
      Laid16 w A16 A32 c16 c32 a b n (i + 1) (some ⟨g, 0, none⟩) cap (w1.setCell ⟨w.heap.size + 1, 0, none⟩ (.slice (some ⟨g, 0, none⟩) (i + 1) cap)) := by
  obtain ⟨hG, ho, hbox, hbel⟩ := h
  have hsz := hG.lt
  have hG1 : Bk w1 (w.heap.size + 1) 78 #[.slice A i c, .slice none 0 0, .int .i64 n] := Bk.grown (((hG.alloc o1).alloc o2).drew) hgrow (own_far ho (by omega))
  have hB1 : Bk w1 w.heap.size 27 #[.slice A16 a.length c16, .slice A32 b.length c32, .int .i64 n] := Bk.grown (((hbox.alloc o1).alloc o2).drew) hgrow (own_far ho (by omega))
  refine ⟨by rw [hG1.cell]; rfl, hG1.frozen 0, ?_, ?_, hB1.far (by simp) _, ?_⟩
  · exact hG1.set_ 0 _
  · rw [take_snoc hlt hx, cellsL_snoc]
    exact ownsRow_setCell_below hown (by simp) _
  · have h1 : Below w.heap.size w ((wr.alloc o1).alloc o2).drew := ((hbel.alloc hbel.size o1).alloc (by have := hbel.size; simp; omega) o2).drew
    have h2 : Below w.heap.size w w1 := h1.grown hgrow h1.size (fun k hk => by have := own_ge ho k hk; omega)
    exact h2.setCell (by simp) _

theorem laid32_step {w : World} {A16 A32 : Option Addr} {c16 c32 : Nat} {a b : List Rg} {n : Int} {A : Option Addr} {c : Nat} {i : Nat} {A' : Option Addr} {c' : Nat} {wr w1 : World} {o1 o2 : Obj} {x : Rg} {g cap : Nat}
    (h : Laid32 w A16 A32 c16 c32 a b n A c i A' c' wr) (hlt : i < b.length) (hx : b.getD i ⟨0, 0, 0⟩ = x)
    (hown : w1.ownsRow (w.heap.size + 2) 81 3 (.slice (some ⟨g, 0, none⟩) (i + 1) cap) (i + 1) (cellsL .u32 (b.take i) ++ [.int .u32 x.lo, .int .u32 x.hi, .int .u32 x.st]))
    (hgrow : ((wr.alloc o1).alloc o2).drew.grownBy w1 (Value.slice A' i c').ownBlock) :
    w1.cell? ⟨w.heap.size + 1, 1, none⟩ = some (.slice A' i c') ∧ w1.frozen? ⟨w.heap.size + 1, 1, none⟩ = false ∧
      Laid32 w A16 A32 c16 c32 a b n A c (i + 1) (some ⟨g, 0, none⟩) cap (w1.setCell ⟨w.heap.size + 1, 1, none⟩ (.slice (some ⟨g, 0, none⟩) (i + 1) cap)) := by
  obtain ⟨hG, h16, ho, hbox, hbel⟩ := h
  have hsz := hG.lt
  have hG1 : Bk w1 (w.heap.size + 1) 78 #[.slice A a.length c, .slice A' i c', .int .i64 n] := Bk.grown (((hG.alloc o1).alloc o2).drew) hgrow (own_far ho (by omega))
  have hB1 : Bk w1 w.heap.size 27 #[.slice A16 a.length c16, .slice A32 b.length c32, .int .i64 n] := Bk.grown (((hbox.alloc o1).alloc o2).drew) hgrow (own_far ho (by omega))
  have h161 : w1.ownsRow (w.heap.size + 2) 79 3 (.slice A a.length c) a.length (cellsL .u16 a) := by
    exact (((h16.alloc o1).alloc o2).drew).kept hgrow (own_apart h16 ho (by decide))
  refine ⟨by rw [hG1.cell]; rfl, hG1.frozen 1, ?_, ?_, ?_, hB1.far (by simp) _, ?_⟩
  · exact hG1.set_ 1 _
  · exact ownsRow_setCell_below h161 (by simp) _
  · rw [take_snoc hlt hx, cellsL_snoc]
    exact ownsRow_setCell_below hown (by simp) _
  · have h1 : Below w.heap.size w ((wr.alloc o1).alloc o2).drew := ((hbel.alloc hbel.size o1).alloc (by have := hbel.size; simp; omega) o2).drew
    have h2 : Below w.heap.size w w1 := h1.grown hgrow h1.size (fun k hk => by have := own_ge ho k hk; omega)
    exact h2.setCell (by simp) _
end Go.Proofs.Ytnhmacmpobkdoaa
