/- A table that begins with copies of two lists: what the appends of whole lists onto new rows leave, in whatever order. -/
import Derived.Test.YtnhmacmpobkdoaaMkB
namespace Go.Proofs.Ytnhmacmpobkdoaa
open Go.RowKit
set_option linter.unusedVariables false

/-- append of a whole list of ranges onto a new empty row at block g, at a step of a region that draws its order. -/
theorem step_fill {P : Program} {ops : Array Oper} {o : Oper} {a : Act} {K : Act → World → Prop} {Q : Exit → Act → World → Prop} {E : Prop} {W : World} (w0 : World) (hgd : o.guard = none) (s x : Operand) (t : TypeId)
    (ho : o.op = .call { callee := .builtin .append, args := #[s, x], argTypes := #[t, t] })
    (e : TypeId) (i : TypeInfo) (z : Value) (bytes : Nat) (ht : P.underlying t = some (.slice e)) (hi : P.info? e = some i) (hz : i.zero = some z)
    (hsize : i.size = 3) (hby : i.bytes = bytes) (hzs : z.cells.size = 3)
    (g : Nat) (hs : a.eval s = .slice (some ⟨g, 0, none⟩) 0 0) (hb : Below w0.heap.size w0 W) (hg : w0.heap.size ≤ g) (hk : Bk W g e #[])
    (k : IntKind) (l : List Rg) (ao : Option Addr) (c : Nat) (M : Int) (hx : a.eval x = .slice ao l.length c) (hnone : ao = none → l.length = 0 ∧ c = 0) (hr : Rd w0 w0.heap.size k M ao l)
    (h63 : l.length ≤ maxLen) (hbytes : l.length * bytes ≤ 140737488355328)
    (h : ∀ A' cap w', w'.ownsRow w0.heap.size e 3 (.slice A' l.length cap) l.length (cellsL k l) → Below w0.heap.size w0 w' → (∀ j t cs, Bk W j t cs → j ≠ g → Bk w' j t cs) →
      (∀ e' v' n' xs', e' ≠ e → W.ownsRow w0.heap.size e' 3 v' n' xs' → w'.ownsRow w0.heap.size e' 3 v' n' xs') → W.heap.size ≤ w'.heap.size → K (a.put o.dst (.slice A' l.length cap)) w') :
    if Region.wanted o (yielded ops a.tmps) = true then Oper.wp P o a W K Q else E := by
  refine step_append_all W hgd s x t ho w0.heap.size e i z 3 bytes ht hi hz hsize hby hzs (by omega) _ 0 [] hs (own_empty hg hk) ao l.length c (cellsL k l) hx (cellsL_length _ _) hnone (rd_news (hr.below hb)) (cellsL_one _ _) (by omega) (by simpa using hbytes) hb.size ?_
  intro A' cap w' hown hgrow hat
  rw [Nat.zero_add, List.nil_append] at hown
  rw [Nat.zero_add]
  exact h A' cap w' hown (hb.grown hgrow hb.size (own_ge (own_empty hg hk))) (fun j t cs hj hne => hj.grown hgrow (fun he => hne (by injection he)))
    (fun e' v' n' xs' hne ho => ho.kept hgrow (own_apart ho (own_empty hg hk) hne)) hgrow.size

theorem bel_alloc {w0 W : World} {o : Obj} (h : Below w0.heap.size w0 W) : Below w0.heap.size w0 (W.alloc o) := h.alloc h.size o
theorem bel_set3 {w0 W : World} {X : Nat} {u0 u1 u2 : Value} (h : Below w0.heap.size w0 W) (hX : w0.heap.size ≤ X) : Below w0.heap.size w0 (((W.setCell ⟨X, 0, none⟩ u0).setCell ⟨X, 1, none⟩ u1).setCell ⟨X, 2, none⟩ u2) := ((h.setCell hX _).setCell hX _).setCell hX _
section
variable {w w0 W : World} {T Z X : Nat} {bt bz : Array Value} {A A' : Option Addr} {c c' : Nat} {l m : List Rg}
/-- The table is stored into a box that was made before. -/
theorem Mk.layB {u0 u1 u2 : Value} (hw : Below w.heap.size w w0) (hT : Bk w0 T 27 bt) (hZ : Bk w0 Z 27 bz) (hwZ : w.heap.size ≤ Z) (hb : Below w0.heap.size w0 W) (hX : Bk W X 27 #[u0, u1, u2]) (hXg : w0.heap.size ≤ X)
    (h16 : W.ownsRow w0.heap.size 39 3 (.slice A l.length c) l.length (cellsL .u16 l)) (h32 : W.ownsRow w0.heap.size 65 3 (.slice A' m.length c') m.length (cellsL .u32 m)) (f16 : Wf 65536 l) (f32 : Wf 4294967296 m) :
    Mk w T Z X bt bz A c l A' c' m (((W.setCell ⟨X, 0, none⟩ (.slice A l.length c)).setCell ⟨X, 1, none⟩ (.slice A' m.length c')).setCell ⟨X, 2, none⟩ (.int .i64 0)) := by
  have hTl := hT.lt
  have hZl := hZ.lt
  have hb3 := bel_set3 (u0 := .slice A l.length c) (u1 := .slice A' m.length c') (u2 := .int .i64 0) hb hXg
  have ho := (((Only.refl X W).store 0 (.slice A l.length c)).store 1 (.slice A' m.length c')).store 2 (.int .i64 0)
  exact ⟨⟨hT.below hb3 hTl, hZ.below hb3 hZl, by omega, by omega, hwZ, by have := hw.size; omega⟩, ((hX.set_ 0 _).set_ 1 _).set_ 2 _, own_mono (own_only h16 hX (by decide) ho) hw.size, own_mono (own_only h32 hX (by decide) ho) hw.size, f16, f32, hw.trans (hb3.mono hw.size)⟩
/-- The box is made last, with the table in it. -/
theorem Mk.layA (hw : Below w.heap.size w w0) (hT : Bk w0 T 27 bt) (hZ : Bk w0 Z 27 bz) (hwZ : w.heap.size ≤ Z) (hb : Below w0.heap.size w0 W)
    (h16 : W.ownsRow w0.heap.size 39 3 (.slice A l.length c) l.length (cellsL .u16 l)) (h32 : W.ownsRow w0.heap.size 65 3 (.slice A' m.length c') m.length (cellsL .u32 m)) (f16 : Wf 65536 l) (f32 : Wf 4294967296 m) :
    Mk w T Z W.heap.size bt bz A c l A' c' m (W.alloc (.cells #[.slice A l.length c, .slice A' m.length c', .int .i64 0] 27)) := by
  have hTl := hT.lt
  have hZl := hZ.lt
  have hs := hb.size
  have hb3 := bel_alloc (o := .cells #[.slice A l.length c, .slice A' m.length c', .int .i64 0] 27) hb
  exact ⟨⟨hT.below hb3 hTl, hZ.below hb3 hZl, by omega, by omega, hwZ, by have := hw.size; omega⟩, Bk.new _ _ _, own_mono (h16.alloc _) hw.size, own_mono (h32.alloc _) hw.size, f16, f32, hw.trans (hb3.mono hw.size)⟩
end
end Go.Proofs.Ytnhmacmpobkdoaa
