/- A list of tables that came in, opened to memory. -/
import Derived.Test.YtanlaigdfgbinaaOpen
import Derived.Test.YtanlaigdfgbinaaTabsA
import Derived.Test.YtanlaigdfgbinaaProg
import Derived.KernelRfl
namespace Go.Proofs.Ytanlaigdfgbinaa
open Go.RowKit Go.ChangeShapes Go.WideShapes Go.Deep Go.Joins
set_option linter.unusedVariables false

section
variable {H : Type} {enc : TypeId × Value → H} {w : World} {base : Nat} {spare : Nat → Bool} {held : Bool}

/-- The fields of a struct of three cells, each with its own reading. -/
theorem fields3 {P : Program} {e : TypeId} {f0 f1 f2 : Field} {fuel : Nat} {cs : List Value} {x : DataW H × List MemPlace} (he : P.underlying e = some (.struct #[f0, f1, f2])) (hone : oneCellFields P #[f0, f1, f2] = true) (hl : cs.length = 3)
    (h : DataW.trod enc P w base spare held fuel e cs = some x) : ∃ (c0 c1 c2 : Value) (y0 y1 y2 : DataW H × List MemPlace) (n : Nat), cs = [c0, c1, c2] ∧ DataW.trod enc P w base spare held n f0.type [c0] = some y0 ∧
      DataW.trod enc P w base spare held n f1.type [c1] = some y1 ∧ DataW.trod enc P w base spare held n f2.type [c2] = some y2 := by
  obtain ⟨y0, y1, y2, n, hx, _, h0, h1, h2⟩ := trod_struct3 he h
  obtain ⟨o0, k0⟩ := hone_of hone 0 f0 rfl
  obtain ⟨o1, k1⟩ := hone_of hone 1 f1 rfl
  obtain ⟨o2, k2⟩ := hone_of hone 2 f2 rfl
  match cs, hl with
  | [c0, c1, c2], _ => exact ⟨c0, c1, c2, y0, y1, y2, n, rfl, by simpa [o0, k0] using h0, by simpa [o1, k1] using h1, by simpa [o2, k2] using h2⟩

theorem cells_tab : Try.prog.cellsOf 25 = 3 := by kernel_rfl

/-- One table, as three cells. -/
theorem open_tab {fuel : Nat} {cs : List Value} {x : DataW H × List MemPlace} (hl : cs.length = 3) (h : DataW.trod enc Try.prog w base spare held fuel 25 cs = some x) :
    ∃ (t : Tab) (A16 : Option Addr) (c16 : Nat) (A32 : Option Addr) (c32 : Nat), cs = [.slice A16 t.a.length c16, .slice A32 t.b.length c32, .int .i64 t.n] ∧
      t.a.length ≤ 9223372036854775807 ∧ t.b.length ≤ 9223372036854775807 ∧ Rd w w.heap.size .u16 65536 A16 t.a ∧ Rd w w.heap.size .u32 4294967296 A32 t.b := by
  obtain ⟨x0, x1, x2, y0, y1, y2, n, rfl, h0, h1, h2⟩ := fields3 Try.underlying25 (by kernel_rfl) hl h
  obtain ⟨A16, a, c16, rfl, la, ra⟩ := open_rgs 65536 wf_u16 Try.underlying22 Try.underlying37 (by kernel_rfl) (by kernel_rfl) Try.underlying35 Try.underlying35 Try.underlying35 h0
  obtain ⟨A32, b, c32, rfl, lb, rb⟩ := open_rgs 4294967296 wf_u32 Try.underlying23 Try.underlying41 (by kernel_rfl) (by kernel_rfl) Try.underlying39 Try.underlying39 Try.underlying39 h1
  obtain ⟨m, e2, -, -⟩ := DataW.trod_int Try.underlying3 h2
  simp only [List.cons.injEq, and_true] at e2
  subst e2
  exact ⟨⟨a, b, m⟩, A16, c16, A32, c32, rfl, la, lb, ra, rb⟩

theorem open_tabs {fuel : Nat} {v : Value} {y : DataW H × List MemPlace} (h : DataW.trod enc Try.prog w base spare held fuel 28 [v] = some y) :
    ∃ (A : Option Addr) (ts : List Tab) (cap : Nat), v = .slice A ts.length cap ∧ ts.length ≤ 9223372036854775807 ∧ RdT w w.heap.size A ts ∧ (ts = [] ∨ ∃ elems sp, y.1 = .slice elems sp ∧ elems.length = ts.length) := by
  rcases open_slice Try.underlying28 h with ⟨h0, _⟩ | ⟨a, len, cap, m, n, D, Pl, hcs, hb, hl, hm, hmm, hx, hi⟩
  · simp at h0
    subst h0
    exact ⟨none, [], 0, rfl, by simp, RdT.nil, .inl rfl⟩
  · simp at hcs
    subst hcs
    rw [cells_tab] at hi
    have hle : len ≤ m := by rw [hmm]; split <;> omega
    have hall : ∀ i, i < len → ∃ t : Tab, (∃ b off A16 c16 A32 c32, a = ⟨b, off, none⟩ ∧ w.cell? ⟨b, off + i * 3, none⟩ = some (.slice A16 t.a.length c16) ∧ w.cell? ⟨b, off + i * 3 + 1, none⟩ = some (.slice A32 t.b.length c32) ∧ w.cell? ⟨b, off + i * 3 + 2, none⟩ = some (.int .i64 t.n) ∧
        Rd w w.heap.size .u16 65536 A16 t.a ∧ Rd w w.heap.size .u32 4294967296 A32 t.b) ∧ t.a.length ≤ 9223372036854775807 ∧ t.b.length ≤ 9223372036854775807 := by
      intro i hil
      obtain ⟨cs', hc, ht'⟩ := hi i (by omega)
      obtain ⟨_, hcl, hat⟩ := World.cells?_some hc
      obtain ⟨t, A16, c16, A32, c32, hcs', l1, l2, ra, rb⟩ := open_tab hcl ht'
      subst hcs'
      have c0 := hat 0 (by omega)
      have c1 := hat 1 (by omega)
      have c2 := hat 2 (by omega)
      rw [Go.Deep.add_add] at c0 c1 c2
      simp only [List.getElem?_cons_zero, List.getElem?_cons_succ] at c0 c1 c2
      obtain ⟨b, off, spot⟩ := a
      have hspot : spot = none := by
        obtain ⟨cs0, hc0, ht0⟩ := hi 0 (by omega)
        obtain ⟨_, hcl0, hat0⟩ := World.cells?_some hc0
        have h1 := hat0 0 (by omega)
        rw [List.getElem?_eq_getElem (by omega)] at h1
        simpa [Addr.add] using World.cell?_spot h1
      subst hspot
      have ad : ∀ j, (⟨b, off, none⟩ : Addr).add j = ⟨b, off + j, none⟩ := fun j => by unfold Addr.add; split <;> simp_all
      rw [ad] at c0 c1 c2
      exact ⟨t, ⟨b, off, A16, c16, A32, c32, rfl, c0, c1, c2, ra, rb⟩, l1, l2⟩
    obtain ⟨ts, hll, hp⟩ := listed len hall
    subst hll
    refine ⟨some a, ts, cap, rfl, by unfold maxLen at hm; omega, ⟨?_, fun hl0 => ?_⟩, .inr ⟨_, _, by rw [hx], by simp⟩⟩
    · intro t ht'
      obtain ⟨i, hi', rfl⟩ := List.getElem_of_mem ht'
      exact (hp i _ (List.getElem?_eq_getElem hi')).2
    · obtain ⟨⟨b, off, A16, c16, A32, c32, ha, c0, _⟩, _⟩ := hp 0 _ (List.getElem?_eq_getElem hl0)
      subst ha
      refine ⟨b, off, rfl, World.block_lt_of_cell? w _ c0, fun i t ht' => ?_⟩
      obtain ⟨⟨b', off', B16, d16, B32, d32, ha, e0, e1, e2, ra, rb⟩, _⟩ := hp i t ht'
      injection ha with f1 f2
      subst f1 f2
      exact ⟨B16, d16, B32, d32, e0, e1, e2, ra, rb⟩
end
end Go.Proofs.Ytanlaigdfgbinaa
