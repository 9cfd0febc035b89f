/- Tables that the reference makes: the table in its box while it is made, and what is handed back. -/
import Derived.Test.YtnhmacmpobkdoaaApp
import Derived.Test.YtnhmacmpobkdoaaTabE
import Derived.Test.YtnhmacmpobkdoaaPlainF
namespace Go.Proofs.Ytnhmacmpobkdoaa
open Go.RowKit
set_option linter.unusedVariables false

/-- A table that is made at block X: its two lists lie in rows of the call's own. Blocks T and Z (boxes, too) are as they were. -/
def Mk (w : World) (T Z X : Nat) (bt bz : Array Value) (A : Option Addr) (c : Nat) (l : List Rg) (A' : Option Addr) (c' : Nat) (m : List Rg) (wr : World) : Prop :=
  (Bk wr T 27 bt ∧ Bk wr Z 27 bz ∧ T ≠ X ∧ Z ≠ X ∧ w.heap.size ≤ Z ∧ w.heap.size ≤ X) ∧ Bk wr X 27 #[.slice A l.length c, .slice A' m.length c', .int .i64 0] ∧
    wr.ownsRow w.heap.size 39 3 (.slice A l.length c) l.length (cellsL .u16 l) ∧ wr.ownsRow w.heap.size 65 3 (.slice A' m.length c') m.length (cellsL .u32 m) ∧ Wf 65536 l ∧ Wf 4294967296 m ∧ Below w.heap.size w wr
/-- What is handed back: a table whose lists lie in rows of the call's own. -/
def Made (w : World) (l m : List Rg) (e : Ending) (w' : World) : Prop :=
  ∃ (A : Option Addr) (c : Nat) (A' : Option Addr) (c' : Nat), e = .returned (.agg #[.slice A l.length c, .slice A' m.length c', .int .i64 (latN l)]) ∧
    w'.ownsRow w.heap.size 39 3 (.slice A l.length c) l.length (cellsL .u16 l) ∧ w'.ownsRow w.heap.size 65 3 (.slice A' m.length c') m.length (cellsL .u32 m) ∧ Wf 65536 l ∧ Wf 4294967296 m ∧ Below w.heap.size w w'
section
variable {w wr w1 : World} {T Z X : Nat} {bt bz : Array Value} {A A' : Option Addr} {c c' : Nat} {l m : List Rg}
theorem Mk.bel (h : Mk w T Z X bt bz A c l A' c' m wr) : Below w.heap.size w wr := h.2.2.2.2.2.2
theorem Mk.bkT (h : Mk w T Z X bt bz A c l A' c' m wr) : Bk wr T 27 bt := h.1.1
theorem Mk.bkZ (h : Mk w T Z X bt bz A c l A' c' m wr) : Bk wr Z 27 bz := h.1.2.1
theorem Mk.bkX (h : Mk w T Z X bt bz A c l A' c' m wr) : Bk wr X 27 #[.slice A l.length c, .slice A' m.length c', .int .i64 0] := h.2.1
theorem Mk.own16 (h : Mk w T Z X bt bz A c l A' c' m wr) : wr.ownsRow w.heap.size 39 3 (.slice A l.length c) l.length (cellsL .u16 l) := h.2.2.1
theorem Mk.own32 (h : Mk w T Z X bt bz A c l A' c' m wr) : wr.ownsRow w.heap.size 65 3 (.slice A' m.length c') m.length (cellsL .u32 m) := h.2.2.2.1
theorem Mk.rd16 (h : Mk w T Z X bt bz A c l A' c' m wr) : Rd wr wr.heap.size .u16 65536 A l := own_rd h.own16 rfl h.2.2.2.2.1
theorem Mk.below (h : Mk w T Z X bt bz A c l A' c' m wr) (hb : Below wr.heap.size wr w1) : Mk w T Z X bt bz A c l A' c' m w1 :=
  ⟨⟨h.bkT.below hb h.bkT.lt, h.bkZ.below hb h.bkZ.lt, h.1.2.2⟩, h.bkX.below hb h.bkX.lt, own_below h.own16 hb, own_below h.own32 hb, h.2.2.2.2.1, h.2.2.2.2.2.1, h.bel.trans (hb.mono h.bel.size)⟩
theorem Mk.alloc (h : Mk w T Z X bt bz A c l A' c' m wr) (o : Obj) : Mk w T Z X bt bz A c l A' c' m (wr.alloc o) := h.below ((Below.refl _ _).alloc (Nat.le_refl _) o)
theorem Mk.drew (h : Mk w T Z X bt bz A c l A' c' m wr) : Mk w T Z X bt bz A c l A' c' m wr.drew := h.below (Below.refl _ _).drew
/-- A store into a block that is none of the table's. -/
theorem Mk.only {R : Nat} (h : Mk w T Z X bt bz A c l A' c' m wr) (hT : T ≠ R) (hZ : Z ≠ R) (hX : X ≠ R) (h16 : some R ≠ (Value.slice A l.length c).ownBlock) (h32 : some R ≠ (Value.slice A' m.length c').ownBlock) (hR : w.heap.size ≤ R) (ho : Only R wr w1) : Mk w T Z X bt bz A c l A' c' m w1 :=
  ⟨⟨h.bkT.grown ho (fun e => hT (by injection e)), h.bkZ.grown ho (fun e => hZ (by injection e)), h.1.2.2⟩, h.bkX.grown ho (fun e => hX (by injection e)), h.own16.kept ho (.inr fun e => h16 e.symm), h.own32.kept ho (.inr fun e => h32 e.symm), h.2.2.2.2.1, h.2.2.2.2.2.1, h.bel.trans (ho.belowOf hR h.bel.size)⟩
theorem wf_snoc {M : Int} {l : List Rg} {x : Rg} (h : Wf M l) (hx : 0 ≤ x.lo ∧ x.lo < M ∧ 0 ≤ x.hi ∧ x.hi < M ∧ 0 ≤ x.st ∧ x.st < M) : Wf M (l ++ [x]) := fun y hy => by
  rcases List.mem_append.1 hy with hy | hy
  · exact h y hy
  · rw [List.mem_singleton] at hy
    subst hy; exact hx
/-- One more range of 16 bits. -/
theorem Mk.push16 {x : Rg} {A2 : Option Addr} {cap L : Nat} (h : Mk w T Z X bt bz A c l A' c' m wr) (hL : l.length = L) (hx : 0 ≤ x.lo ∧ x.lo < 65536 ∧ 0 ≤ x.hi ∧ x.hi < 65536 ∧ 0 ≤ x.st ∧ x.st < 65536)
    (hown : w1.ownsRow w.heap.size 39 3 (.slice A2 (L + 1) cap) (L + 1) (cellsL .u16 l ++ [.int .u16 x.lo, .int .u16 x.hi, .int .u16 x.st])) (hgrow : wr.grownBy w1 (Value.slice A L c).ownBlock) :
    w1.cell? ⟨X, 0, none⟩ = some (.slice A L c) ∧ w1.frozen? ⟨X, 0, none⟩ = false ∧ Mk w T Z X bt bz A2 cap (l ++ [x]) A' c' m (w1.setCell ⟨X, 0, none⟩ (.slice A2 (L + 1) cap)) := by
  subst hL
  have hB : Below w.heap.size w w1 := h.bel.grown hgrow h.bel.size (own_ge h.own16)
  have hX := h.bkX.grown hgrow (own_bk h.own16 h.bkX (by decide))
  have hs := (Only.refl X w1).store 0 (.slice A2 (l.length + 1) cap)
  have hT := (h.bkT.grown hgrow (own_bk h.own16 h.bkT (by decide))).far (p := ⟨X, 0, none⟩) h.1.2.2.1 (.slice A2 (l.length + 1) cap)
  have hZ := (h.bkZ.grown hgrow (own_bk h.own16 h.bkZ (by decide))).far (p := ⟨X, 0, none⟩) h.1.2.2.2.1 (.slice A2 (l.length + 1) cap)
  refine ⟨hX.cell 0, hX.frozen 0, ⟨hT, hZ, h.1.2.2⟩, ?_, ?_, ?_, wf_snoc h.2.2.2.2.1 hx, h.2.2.2.2.2.1, hB.setCell h.1.2.2.2.2.2 _⟩
  · rw [List.length_append]; exact hX.set_ 0 _
  · rw [cellsL_snoc, List.length_append]; exact own_only hown hX (by decide) hs
  · exact own_only (h.own32.kept hgrow (own_apart h.own32 h.own16 (by decide))) hX (by decide) hs
/-- One more range of more bits. -/
theorem Mk.push32 {x : Rg} {A2 : Option Addr} {cap L : Nat} (h : Mk w T Z X bt bz A c l A' c' m wr) (hL : m.length = L) (hx : 0 ≤ x.lo ∧ x.lo < 4294967296 ∧ 0 ≤ x.hi ∧ x.hi < 4294967296 ∧ 0 ≤ x.st ∧ x.st < 4294967296)
    (hown : w1.ownsRow w.heap.size 65 3 (.slice A2 (L + 1) cap) (L + 1) (cellsL .u32 m ++ [.int .u32 x.lo, .int .u32 x.hi, .int .u32 x.st])) (hgrow : wr.grownBy w1 (Value.slice A' L c').ownBlock) :
    w1.cell? ⟨X, 1, none⟩ = some (.slice A' L c') ∧ w1.frozen? ⟨X, 1, none⟩ = false ∧ Mk w T Z X bt bz A c l A2 cap (m ++ [x]) (w1.setCell ⟨X, 1, none⟩ (.slice A2 (L + 1) cap)) := by
  subst hL
  have hB : Below w.heap.size w w1 := h.bel.grown hgrow h.bel.size (own_ge h.own32)
  have hX := h.bkX.grown hgrow (own_bk h.own32 h.bkX (by decide))
  have hs := (Only.refl X w1).store 1 (.slice A2 (m.length + 1) cap)
  have hT := (h.bkT.grown hgrow (own_bk h.own32 h.bkT (by decide))).far (p := ⟨X, 1, none⟩) h.1.2.2.1 (.slice A2 (m.length + 1) cap)
  have hZ := (h.bkZ.grown hgrow (own_bk h.own32 h.bkZ (by decide))).far (p := ⟨X, 1, none⟩) h.1.2.2.2.1 (.slice A2 (m.length + 1) cap)
  refine ⟨hX.cell 1, hX.frozen 1, ⟨hT, hZ, h.1.2.2⟩, ?_, ?_, ?_, h.2.2.2.2.1, wf_snoc h.2.2.2.2.2.1 hx, hB.setCell h.1.2.2.2.2.2 _⟩
  · rw [List.length_append]; exact hX.set_ 1 _
  · exact own_only (h.own16.kept hgrow (own_apart h.own16 h.own32 (by decide))) hX (by decide) hs
  · rw [cellsL_snoc, List.length_append]; exact own_only hown hX (by decide) hs
/-- The end: the number of Latin ranges is stored, and the table is copied from its box into the result. -/
theorem Mk.done {v0 v1 v2 : Value} (h : Mk w T Z X bt #[v0, v1, v2] A c l A' c' m wr) :
    let W := ((((wr.setCell ⟨X, 2, none⟩ (.int .i64 (latN l))).setCell ⟨Z, 0, none⟩ (.slice A l.length c)).setCell ⟨Z, 1, none⟩ (.slice A' m.length c')).setCell ⟨Z, 2, none⟩ (.int .i64 (latN l)))
    W.cell? ⟨Z, 0, none⟩ = some (.slice A l.length c) ∧ W.cell? ⟨Z, 1, none⟩ = some (.slice A' m.length c') ∧ W.cell? ⟨Z, 2, none⟩ = some (.int .i64 (latN l)) ∧
      Made w l m (.returned (.agg #[.slice A l.length c, .slice A' m.length c', .int .i64 (latN l)])) W := by
  have o1 := (Only.refl X wr).store 2 (.int .i64 (latN l))
  have hZ1 := h.bkZ.far (p := ⟨X, 2, none⟩) h.1.2.2.2.1 (.int .i64 (latN l))
  have o2 := (((Only.refl Z (wr.setCell ⟨X, 2, none⟩ (.int .i64 (latN l)))).store 0 (.slice A l.length c)).store 1 (.slice A' m.length c')).store 2 (.int .i64 (latN l))
  have hf := ((hZ1.set_ 0 (.slice A l.length c)).set_ 1 (.slice A' m.length c')).set_ 2 (.int .i64 (latN l))
  exact ⟨hf.cell 0, hf.cell 1, hf.cell 2, A, c, A', c', rfl, own_only (own_only h.own16 h.bkX (by decide) o1) hZ1 (by decide) o2, own_only (own_only h.own32 h.bkX (by decide) o1) hZ1 (by decide) o2, h.2.2.2.2.1, h.2.2.2.2.2.1,
    (((h.bel.setCell h.1.2.2.2.2.2 _).setCell h.1.2.2.2.2.1 _).setCell h.1.2.2.2.2.1 _).setCell h.1.2.2.2.2.1 _⟩
theorem Made.rd16 {e : Ending} (h : Made w l m e w1) : ∃ A c A' c', e = .returned (.agg #[.slice A l.length c, .slice A' m.length c', .int .i64 (latN l)]) ∧ Rd w1 w1.heap.size .u16 65536 A l ∧ Rd w1 w1.heap.size .u32 4294967296 A' m ∧ Below w.heap.size w w1 := by
  obtain ⟨A, c, A', c', he, h1, h2, h3, h4, h5⟩ := h
  exact ⟨A, c, A', c', he, own_rd h1 rfl h3, own_rd h2 rfl h4, h5⟩
end
/-- A table that has just been begun: two empty lists in its box. -/
theorem Mk.start {w wr : World} {T Z X g g' : Nat} {bt bz : Array Value} (hT : Bk wr T 27 bt) (hZ : Bk wr Z 27 bz) (hX : Bk wr X 27 #[.slice (some ⟨g, 0, none⟩) 0 0, .slice (some ⟨g', 0, none⟩) 0 0, .int .i64 0]) (hg : Bk wr g 39 #[]) (hg' : Bk wr g' 65 #[])
    (h1 : T ≠ X) (h2 : Z ≠ X) (h3 : w.heap.size ≤ Z) (h4 : w.heap.size ≤ X) (h5 : w.heap.size ≤ g) (h6 : w.heap.size ≤ g') (hb : Below w.heap.size w wr) : Mk w T Z X bt bz (some ⟨g, 0, none⟩) 0 [] (some ⟨g', 0, none⟩) 0 [] wr :=
  ⟨⟨hT, hZ, h1, h2, h3, h4⟩, hX, own_empty h5 hg, own_empty h6 hg', (fun x hx => by cases hx), (fun x hx => by cases hx), hb⟩
/-- A new block, its number told otherwise. -/
theorem bk_at {W : World} {k : Nat} (h : W.heap.size = k) (t : TypeId) (cs : Array Value) : Bk (W.alloc (.cells cs t)) k t cs := h ▸ Bk.new W t cs
theorem own_len {w : World} {base : Nat} {e : TypeId} {size : Nat} {A : Option Addr} {c k k' : Nat} {xs : List Value} (h : w.ownsRow base e size (.slice A k c) k xs) (hk : k = k') : w.ownsRow base e size (.slice A k' c) k' xs := hk ▸ h
theorem Mk.begin (w : World) (bt : Array Value) : Mk w w.heap.size (w.heap.size + 1) (w.heap.size + 1 + 1 + 1 + 1) bt #[.slice none 0 0, .slice none 0 0, .int .i64 0] (some ⟨w.heap.size + 1 + 1, 0, none⟩) 0 [] (some ⟨w.heap.size + 1 + 1 + 1, 0, none⟩) 0 []
    (((((w.alloc (.cells bt 27)).alloc (.cells #[.slice none 0 0, .slice none 0 0, .int .i64 0] 27)).alloc (.cells #[] 39)).alloc (.cells #[] 65)).alloc (.cells #[.slice (some ⟨w.heap.size + 1 + 1, 0, none⟩) 0 0, .slice (some ⟨w.heap.size + 1 + 1 + 1, 0, none⟩) 0 0, .int .i64 0] 27)) := by
  refine Mk.start ((((Bk.new w _ _).alloc _).alloc _).alloc _ |>.alloc _) ?_ ?_ ?_ ?_ (by omega) (by omega) (by omega) (by omega) (by omega) (by omega) ?_
  · have := Bk.new (w.alloc (.cells bt 27)) 27 #[.slice none 0 0, .slice none 0 0, .int .i64 0]
    rw [World.size_alloc] at this
    exact ((this.alloc _).alloc _).alloc _
  · have := Bk.new ((((w.alloc (.cells bt 27)).alloc (.cells #[.slice none 0 0, .slice none 0 0, .int .i64 0] 27)).alloc (.cells #[] 39)).alloc (.cells #[] 65)) 27 #[.slice (some ⟨w.heap.size + 1 + 1, 0, none⟩) 0 0, .slice (some ⟨w.heap.size + 1 + 1 + 1, 0, none⟩) 0 0, .int .i64 0]
    simp only [World.size_alloc] at this
    exact this
  · have := Bk.new ((w.alloc (.cells bt 27)).alloc (.cells #[.slice none 0 0, .slice none 0 0, .int .i64 0] 27)) 39 #[]
    simp only [World.size_alloc] at this
    exact (this.alloc _).alloc _
  · have := Bk.new (((w.alloc (.cells bt 27)).alloc (.cells #[.slice none 0 0, .slice none 0 0, .int .i64 0] 27)).alloc (.cells #[] 39)) 65 #[]
    simp only [World.size_alloc] at this
    exact this.alloc _
  · exact (((((Below.refl _ _).alloc (Nat.le_refl _) _).alloc (by simp) _).alloc (by simp; omega) _).alloc (by simp; omega) _).alloc (by simp; omega) _
/-- The row behind an append lies where the old one lay, or at the heap's end: it is no block that has been made meanwhile. -/
theorem own_meanwhile {W wr : World} {base : Nat} {e : TypeId} {size n : Nat} {v : Value} {A2 : Option Addr} {k k' cap : Nat} {xs : List Value} (h : wr.ownsRow base e size v n xs) (hat : (Value.slice A2 k cap).ownBlock = v.ownBlock ∨ (Value.slice A2 k cap).ownBlock = some W.heap.size) (hW : wr.heap.size < W.heap.size) : some wr.heap.size ≠ (Value.slice A2 k' cap).ownBlock := by
  have he : (Value.slice A2 k' cap).ownBlock = (Value.slice A2 k cap).ownBlock := by cases A2 <;> rfl
  rw [he]
  rcases hat with h1 | h1
  · rw [h1]; exact own_new h
  · rw [h1]; intro he; injection he; omega
end Go.Proofs.Ytnhmacmpobkdoaa
