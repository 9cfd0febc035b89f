/- More words for memory: a block that is known whole, and rows of ranges that a call owns. No program occurs here. -/
import Derived.Test.YtnhmacmpobkdoaaMem
import Derived.Laws.Rows
import Derived.Laws.OwnMore
import Derived.OwnWalk
namespace Go.Proofs.Ytnhmacmpobkdoaa
open Go.RowKit
set_option linter.unusedVariables false

/-- Block g holds just the cells cs, of element type t; none of them is frozen. -/
def Bk (w : World) (g : Nat) (t : TypeId) (cs : Array Value) : Prop := w.heap[g]? = some (.cells cs t (0, 0))
section
variable {w w' : World} {g : Nat} {t : TypeId} {cs : Array Value}
theorem Bk.lt (h : Bk w g t cs) : g < w.heap.size := by
  rcases Nat.lt_or_ge g w.heap.size with h1 | h1
  · exact h1
  · unfold Bk at h; rw [Array.getElem?_eq_none h1] at h; cases h
theorem Bk.cell (h : Bk w g t cs) (i : Nat) : w.cell? ⟨g, i, none⟩ = cs[i]? := cell_of_row w g i cs t (0, 0) h
theorem Bk.frozen (h : Bk w g t cs) (i : Nat) : w.frozen? ⟨g, i, none⟩ = false := by unfold Bk at h; simp [World.frozen?, h]
theorem Bk.new (w : World) (t : TypeId) (cs : Array Value) : Bk (w.alloc (.cells cs t)) w.heap.size t cs := heap_alloc_new w _
theorem Bk.drew (h : Bk w g t cs) : Bk w.drew g t cs := h
theorem Bk.drewN (h : Bk w g t cs) (n : Nat) : Bk (w.drewN n) g t cs := h
theorem Bk.alloc (h : Bk w g t cs) (o : Obj) : Bk (w.alloc o) g t cs := (Below.heap_alloc w o g h.lt).trans h
theorem Bk.set_ (h : Bk w g t cs) (i : Nat) (u : Value) : Bk (w.setCell ⟨g, i, none⟩ u) g t (cs.setIfInBounds i u) := by
  unfold Bk at h ⊢
  simp [World.setCell, Array.getElem?_modify, h]
theorem Bk.far (h : Bk w g t cs) {p : Addr} (hp : g ≠ p.block) (u : Value) : Bk (w.setCell p u) g t cs := (Below.heap_setCell w p u g hp).trans h
theorem Bk.below {B : Nat} (h : Bk w g t cs) (hb : Below B w w') (hg : g < B) : Bk w' g t cs := (hb.block g hg).trans h
theorem Bk.grown {row : Option Nat} (h : Bk w g t cs) (hb : w.grownBy w' row) (hg : some g ≠ row) : Bk w' g t cs := (hb.block g h.lt hg).trans h
theorem Bk.ne_ {g' : Nat} {t' : TypeId} {cs' : Array Value} (h : Bk w g t cs) (h' : Bk w g' t' cs') (hne : t ≠ t') : g ≠ g' := by
  rintro rfl
  unfold Bk at h h'
  rw [h] at h'
  injection h' with h'
  injection h' with _ ht
  exact hne ht
end

theorem heap_new2 (w : World) (o1 o2 : Obj) : ((w.alloc o1).alloc o2).heap[w.heap.size + 1]? = some o2 := by
  have := heap_alloc_new (w.alloc o1) o2
  rwa [World.size_alloc] at this

/-- A block below 'base' is not the row that is owned from 'base' on. -/
theorem own_far {w : World} {base : Nat} {e : TypeId} {size n : Nat} {v : Value} {xs : List Value} (h : w.ownsRow base e size v n xs) {b : Nat} (hb : b < base) : some b ≠ v.ownBlock := by
  rcases h.2 with ⟨rfl, _⟩ | ⟨g', cap, cur, rfl, hg, _⟩
  · simp [Value.ownBlock]
  · intro he
    have : b = g' := by simpa [Value.ownBlock] using he
    omega
theorem own_ge {w : World} {base : Nat} {e : TypeId} {size n : Nat} {v : Value} {xs : List Value} (h : w.ownsRow base e size v n xs) : ∀ b, v.ownBlock = some b → base ≤ b := by
  intro b hb
  rcases Nat.lt_or_ge b base with h1 | h1
  · exact absurd hb.symm (own_far h h1)
  · exact h1
/-- Two rows of different element types lie in different blocks. -/
theorem own_ne {w : World} {base base' : Nat} {e e' : TypeId} {size size' n n' : Nat} {v v' : Value} {xs xs' : List Value} (h : w.ownsRow base e size v n xs) (h' : w.ownsRow base' e' size' v' n' xs') (hne : e ≠ e') :
    ∀ b, v.ownBlock = some b → v'.ownBlock ≠ some b := by
  intro b hb hb'
  rcases h.2 with ⟨rfl, _⟩ | ⟨g, cap, cur, rfl, _, hh, _⟩
  · simp [Value.ownBlock] at hb
  · rcases h'.2 with ⟨rfl, _⟩ | ⟨g', cap', cur', rfl, _, hh', _⟩
    · simp [Value.ownBlock] at hb'
    · have e1 : g = b := by simpa [Value.ownBlock] using hb
      have e2 : g' = b := by simpa [Value.ownBlock] using hb'
      subst e1 e2
      rw [hh] at hh'
      injection hh' with hh'
      injection hh' with _ ht
      exact hne ht

theorem own_apart {w : World} {base base' : Nat} {e e' : TypeId} {size size' n n' : Nat} {v v' : Value} {xs xs' : List Value} (h : w.ownsRow base e size v n xs) (h' : w.ownsRow base' e' size' v' n' xs') (hne : e ≠ e') :
    v.ownBlock = none ∨ v.ownBlock ≠ v'.ownBlock := by
  cases hb : v.ownBlock with
  | none => exact .inl rfl
  | some b => exact .inr fun he => own_ne h h' hne b hb he.symm

theorem own_mono {w : World} {base base' : Nat} {e : TypeId} {size n : Nat} {v : Value} {xs : List Value} (h : w.ownsRow base e size v n xs) (hb : base' ≤ base) : w.ownsRow base' e size v n xs := by
  refine ⟨h.1, ?_⟩
  rcases h.2 with h2 | ⟨g, cap, cur, hv, hg, r⟩
  · exact .inl h2
  · exact .inr ⟨g, cap, cur, hv, by omega, r⟩
theorem own_below {w w' : World} {base : Nat} {e : TypeId} {size n : Nat} {v : Value} {xs : List Value} (h : w.ownsRow base e size v n xs) (hb : Below w.heap.size w w') : w'.ownsRow base e size v n xs := by
  refine ⟨h.1, ?_⟩
  rcases h.2 with h2 | ⟨g, cap, cur, hv, hg, hh, r⟩
  · exact .inl h2
  · refine .inr ⟨g, cap, cur, hv, hg, ?_, r⟩
    rw [hb.block g (Bk.lt (t := e) (cs := cur) hh)]
    exact hh
theorem own_bk {w : World} {base : Nat} {e t : TypeId} {size n g : Nat} {v : Value} {xs : List Value} {cs : Array Value} (h : w.ownsRow base e size v n xs) (hg : Bk w g t cs) (hne : e ≠ t) : some g ≠ v.ownBlock := by
  rcases h.2 with ⟨rfl, _⟩ | ⟨g', cap, cur, rfl, _, hh, _⟩
  · simp [Value.ownBlock]
  · intro he
    have : g = g' := by simpa [Value.ownBlock] using he
    subst this
    exact Bk.ne_ (t := e) hh hg hne rfl

/-- The cells of a list of ranges. -/
def cellsL (k : IntKind) (l : List Rg) : List Value := l.flatMap fun x => [.int k x.lo, .int k x.hi, .int k x.st]
theorem cellsL_nil (k : IntKind) : cellsL k [] = [] := rfl
theorem cellsL_snoc (k : IntKind) (l : List Rg) (x : Rg) : cellsL k (l ++ [x]) = cellsL k l ++ [.int k x.lo, .int k x.hi, .int k x.st] := by simp [cellsL]
theorem cellsL_append (k : IntKind) (l m : List Rg) : cellsL k (l ++ m) = cellsL k l ++ cellsL k m := by simp [cellsL]
theorem cellsL_length (k : IntKind) (l : List Rg) : (cellsL k l).length = l.length * 3 := by
  induction l with
  | nil => rfl
  | cons x r ih =>
    have : cellsL k (x :: r) = .int k x.lo :: .int k x.hi :: .int k x.st :: cellsL k r := rfl
    rw [this]
    simp only [List.length_cons, ih]
    omega
theorem cellsL_one (k : IntKind) (l : List Rg) : ∀ u ∈ cellsL k l, u.oneCell' = true := by
  intro u hu
  simp only [cellsL, List.mem_flatMap, List.mem_cons, List.not_mem_nil, or_false] at hu
  obtain ⟨x, _, rfl | rfl | rfl⟩ := hu <;> rfl
theorem cellsL_at (k : IntKind) : ∀ (l : List Rg) (i : Nat) (x : Rg), l[i]? = some x →
    (cellsL k l)[i * 3]? = some (.int k x.lo) ∧ (cellsL k l)[i * 3 + 1]? = some (.int k x.hi) ∧ (cellsL k l)[i * 3 + 2]? = some (.int k x.st) := by
  intro l
  induction l with
  | nil => intro i x h; simp at h
  | cons y r ih =>
    intro i x h
    have e : cellsL k (y :: r) = .int k y.lo :: .int k y.hi :: .int k y.st :: cellsL k r := rfl
    rw [e]
    cases i with
    | zero => simp at h; subst h; exact ⟨rfl, rfl, rfl⟩
    | succ i =>
      simp only [List.getElem?_cons_succ] at h
      obtain ⟨h1, h2, h3⟩ := ih i x h
      rw [show (i + 1) * 3 = i * 3 + 1 + 1 + 1 from by omega]
      simp only [List.getElem?_cons_succ]
      exact ⟨h1, h2, h3⟩
theorem take_snoc {l : List Rg} {i : Nat} {x : Rg} (hi : i < l.length) (h : l.getD i ⟨0, 0, 0⟩ = x) : l.take (i + 1) = l.take i ++ [x] := by
  rw [List.take_succ_eq_append_getElem hi]
  rw [List.getD_eq_getElem?_getD, List.getElem?_eq_getElem hi] at h
  simp at h
  rw [h]

/-- What a row that the call owns reads as. -/
theorem own_rd {w : World} {base : Nat} {e : TypeId} {A : Option Addr} {n c : Nat} {k : IntKind} {M : Int} {l : List Rg} (h : w.ownsRow base e 3 (.slice A n c) n (cellsL k l)) (hn : n = l.length) (hw : Wf M l) : Rd w w.heap.size k M A l := by
  subst hn
  refine ⟨hw, fun hl => ?_⟩
  obtain ⟨g, cap, hv, _, hlt⟩ := h.form hl
  have hA : A = some ⟨g, 0, none⟩ := by injection hv
  subst hA
  have hc := h.cells (g := g) rfl
  have ad : ∀ j, (⟨g, 0, none⟩ : Addr).add j = ⟨g, 0 + j, none⟩ := fun j => by unfold Addr.add; split <;> simp_all
  refine ⟨g, 0, rfl, hlt, fun i x hx => ?_⟩
  obtain ⟨h1, h2, h3⟩ := cellsL_at k l i x hx
  have k1 := hc _ _ h1
  have k2 := hc _ _ h2
  have k3 := hc _ _ h3
  rw [ad] at k1 k2 k3
  exact ⟨k1, k2, k3⟩
theorem Wf.take {M : Int} {l : List Rg} (h : Wf M l) (i : Nat) : Wf M (l.take i) := fun x hx => h x (List.mem_of_mem_take hx)
end Go.Proofs.Ytnhmacmpobkdoaa
