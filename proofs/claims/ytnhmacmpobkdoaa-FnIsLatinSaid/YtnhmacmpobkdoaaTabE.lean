/- Lists of tables in a row of the call's own: each table's two lists lie in rows of their own, too. -/
import Derived.Test.YtnhmacmpobkdoaaDrawE
import Derived.Test.YtnhmacmpobkdoaaTabsA
namespace Go.Proofs.Ytnhmacmpobkdoaa
open Go.RowKit
set_option linter.unusedVariables false

/-- A table as it stands in a list: where its ranges lie. -/
structure Ent where
  p : Option Addr
  cp : Nat
  q : Option Addr
  cq : Nat
  t : Tab
def cellsE (es : List Ent) : List Value := es.flatMap fun x => [.slice x.p x.t.a.length x.cp, .slice x.q x.t.b.length x.cq, .int .i64 x.t.n]
theorem cellsE_snoc (es : List Ent) (x : Ent) : cellsE (es ++ [x]) = cellsE es ++ [.slice x.p x.t.a.length x.cp, .slice x.q x.t.b.length x.cq, .int .i64 x.t.n] := by simp [cellsE]
theorem cellsE_append (es fs : List Ent) : cellsE (es ++ fs) = cellsE es ++ cellsE fs := by simp [cellsE]
theorem cellsE_at : ∀ (l : List Ent) (i : Nat) (x : Ent), l[i]? = some x →
    (cellsE l)[i * 3]? = some (.slice x.p x.t.a.length x.cp) ∧ (cellsE l)[i * 3 + 1]? = some (.slice x.q x.t.b.length x.cq) ∧ (cellsE l)[i * 3 + 2]? = some (.int .i64 x.t.n) := by
  intro l
  induction l with
  | nil => intro i x h; simp at h
  | cons y r ih =>
    intro i x h
    have e : cellsE (y :: r) = .slice y.p y.t.a.length y.cp :: .slice y.q y.t.b.length y.cq :: .int .i64 y.t.n :: cellsE r := rfl
    rw [e]
    cases i with
    | zero => simp at h; subst h; exact ⟨rfl, rfl, rfl⟩
    | succ i =>
      simp only [List.getElem?_cons_succ] at h
      obtain ⟨h1, h2, h3⟩ := ih i x h
      rw [show (i + 1) * 3 = i * 3 + 1 + 1 + 1 from by omega]
      simp only [List.getElem?_cons_succ]
      exact ⟨h1, h2, h3⟩

/-- A block that comes to lie behind all that is there is no row that is there. -/
theorem own_new {w : World} {base : Nat} {e : TypeId} {size n : Nat} {v : Value} {xs : List Value} (h : w.ownsRow base e size v n xs) : some w.heap.size ≠ v.ownBlock := by
  rcases h.2 with ⟨rfl, _⟩ | ⟨g', cap, cur, rfl, _, hh, _⟩
  · simp [Value.ownBlock]
  · intro he
    have : w.heap.size = g' := by simpa [Value.ownBlock] using he
    have := Bk.lt (t := e) (cs := cur) hh
    omega
theorem TabO.grown {w w' : World} {base base' : Nat} {A16 A32 : Option Addr} {c16 c32 : Nat} {a b : List Rg} {e : TypeId} {size n : Nat} {v : Value} {xs : List Value} (h : TabO w base A16 c16 A32 c32 a b) (hv : w.ownsRow base' e size v n xs) (hg : w.grownBy w' v.ownBlock) (h1 : 39 ≠ e) (h2 : 65 ≠ e) : TabO w' base A16 c16 A32 c32 a b :=
  ⟨h.1.kept hg (own_apart h.1 hv h1), h.2.1.kept hg (own_apart h.2.1 hv h2), h.2.2⟩

/-- The tables gathered so far, in a row of the call's own, and their ranges in rows of their own. -/
def Lst (B : Nat) (A' : Option Addr) (c' : Nat) (es : List Ent) (wr : World) : Prop :=
  wr.ownsRow B 27 3 (.slice A' es.length c') es.length (cellsE es) ∧ ∀ x ∈ es, TabO wr B x.p x.cp x.q x.cq x.t.a x.t.b
section
variable {B : Nat} {A' : Option Addr} {c' : Nat} {es : List Ent} {wr w1 : World}
theorem Lst.below (h : Lst B A' c' es wr) (hb : Below wr.heap.size wr w1) : Lst B A' c' es w1 := ⟨own_below h.1 hb, fun x hx => (h.2 x hx).below hb⟩
theorem Lst.alloc (h : Lst B A' c' es wr) (o : Obj) : Lst B A' c' es (wr.alloc o) := h.below ((Below.refl _ _).alloc (Nat.le_refl _) o)
theorem Lst.only {R : Nat} {t : TypeId} {cs : Array Value} (h : Lst B A' c' es wr) (hR : Bk wr R t cs) (h0 : 27 ≠ t) (h1 : 39 ≠ t) (h2 : 65 ≠ t) (ho : Only R wr w1) : Lst B A' c' es w1 :=
  ⟨own_only h.1 hR h0 ho, fun x hx => (h.2 x hx).only hR h1 h2 ho⟩
theorem Lst.start (B : Nat) (w : World) (hB : B ≤ w.heap.size) : Lst B (some ⟨w.heap.size, 0, none⟩) 0 [] (w.alloc (.cells #[] 27)) :=
  ⟨⟨rfl, .inr ⟨w.heap.size, 0, #[], rfl, hB, heap_alloc_new _ _, Nat.le_refl _, by unfold maxLen; omega, rfl, rfl⟩⟩, fun x hx => by cases hx⟩
theorem Lst.snoc {g cap : Nat} {x : Ent} (h : Lst B A' c' es wr) (hx : TabO wr B x.p x.cp x.q x.cq x.t.a x.t.b)
    (hown : w1.ownsRow B 27 3 (.slice (some ⟨g, 0, none⟩) (es.length + 1) cap) (es.length + 1) (cellsE es ++ [.slice x.p x.t.a.length x.cp, .slice x.q x.t.b.length x.cq, .int .i64 x.t.n])) (hgrow : wr.grownBy w1 (Value.slice A' es.length c').ownBlock) :
    Lst B (some ⟨g, 0, none⟩) cap (es ++ [x]) w1 := by
  refine ⟨by rw [cellsE_snoc, List.length_append]; exact hown, fun y hy => ?_⟩
  rcases List.mem_append.1 hy with hy | hy
  · exact (h.2 y hy).grown h.1 hgrow (by decide) (by decide)
  · rw [List.mem_singleton] at hy
    subst hy; exact hx.grown h.1 hgrow (by decide) (by decide)
/-- What such a list reads as. -/
theorem Lst.rdT (h : Lst B A' c' es wr) : RdT wr wr.heap.size A' (es.map Ent.t) := by
  refine ⟨fun t ht => ?_, fun hl => ?_⟩
  · obtain ⟨x, hx, rfl⟩ := List.mem_map.1 ht
    have hT := h.2 x hx
    have l1 : x.t.a.length ≤ 40 := hT.2.2.2.2.1
    have l2 : x.t.b.length ≤ 40 := hT.2.2.2.2.2
    omega
  · rw [List.length_map] at hl
    obtain ⟨g, cap, hv, _, hlt⟩ := h.1.form hl
    have hA : A' = some ⟨g, 0, none⟩ := by injection hv
    subst hA
    have hc := h.1.cells (g := g) rfl
    have ad : ∀ j, (⟨g, 0, none⟩ : Addr).add j = ⟨g, 0 + j, none⟩ := fun j => by unfold Addr.add; split <;> simp_all
    refine ⟨g, 0, rfl, hlt, fun i t ht => ?_⟩
    rw [List.getElem?_map] at ht
    obtain ⟨x, hx, rfl⟩ := Option.map_eq_some_iff.1 ht
    obtain ⟨h1, h2, h3⟩ := cellsE_at es i x hx
    have k1 := hc _ _ h1
    have k2 := hc _ _ h2
    have k3 := hc _ _ h3
    rw [ad] at k1 k2 k3
    have hT := h.2 x (List.mem_of_getElem? hx)
    exact ⟨x.p, x.cp, x.q, x.cq, k1, k2, k3, hT.rd16, hT.rd32⟩
theorem Lst.small (h : Lst B A' c' es wr) : ∀ t ∈ es.map Ent.t, t.a.length ≤ 40 ∧ t.b.length ≤ 40 := fun t ht => by
  obtain ⟨x, hx, rfl⟩ := List.mem_map.1 ht
  exact ⟨(h.2 x hx).2.2.2.2.1, (h.2 x hx).2.2.2.2.2⟩
end
end Go.Proofs.Ytnhmacmpobkdoaa
