/- Arguments that came in, opened to memory: a slice of ranges, a table by value. No program occurs here. -/
import Derived.Test.YtanlaigdfgbinaaMem
import Derived.Deep.Slices
import Derived.Deep.Fields
import Derived.Lib.SmallJoins
import Derived.ChangeSame
namespace Go.Proofs.Ytanlaigdfgbinaa
open Go.RowKit Go.ChangeShapes Go.WideShapes Go.Deep Go.Joins
set_option linter.unusedVariables false

theorem listed {α : Type} {P : Nat → α → Prop} : ∀ n : Nat, (∀ i, i < n → ∃ x, P i x) → ∃ l : List α, l.length = n ∧ ∀ i x, l[i]? = some x → P i x := by
  intro n
  induction n with
  | zero => intro _; exact ⟨[], rfl, fun i x h => by simp at h⟩
  | succ n ih =>
    intro h
    obtain ⟨l, hl, hp⟩ := ih fun i hi => h i (by omega)
    obtain ⟨y, hy⟩ := h n (by omega)
    refine ⟨l ++ [y], by simp [hl], fun i x hx => ?_⟩
    rcases Nat.lt_or_ge i n with hi | hi
    · rw [List.getElem?_append_left (by omega)] at hx
      exact hp i x hx
    · have hin : i = n := by
        have := (List.getElem?_eq_some_iff.1 hx).1
        simp at this
        omega
      subst hin
      rw [List.getElem?_append_right (by omega)] at hx
      simp [hl] at hx
      subst hx
      exact hy

section
variable {H : Type} {enc : TypeId × Value → H} {P : Program} {w : World} {base : Nat} {spare : Nat → Bool} {held : Bool}

/-- The fields of one struct of three integers of one kind. -/
theorem open_three {e : TypeId} {f0 f1 f2 : Field} {k : IntKind} {fuel : Nat} {cs : List Value} {x : DataW H × List MemPlace} (he : P.underlying e = some (.struct #[f0, f1, f2])) (hone : oneCellFields P #[f0, f1, f2] = true)
    (u0 : P.underlying f0.type = some (.int k)) (u1 : P.underlying f1.type = some (.int k)) (u2 : P.underlying f2.type = some (.int k)) (hl : cs.length = 3)
    (h : DataW.trod enc P w base spare held fuel e cs = some x) : ∃ x : Rg, cs = [.int k x.lo, .int k x.hi, .int k x.st] ∧ (Lit.int k x.lo).wf = true ∧ (Lit.int k x.hi).wf = true ∧ (Lit.int k x.st).wf = true := by
  obtain ⟨y0, y1, y2, n, hx, _, h0, h1, h2⟩ := trod_struct3 he h
  obtain ⟨o0, k0⟩ := hone_of hone 0 f0 rfl
  obtain ⟨o1, k1⟩ := hone_of hone 1 f1 rfl
  obtain ⟨o2, k2⟩ := hone_of hone 2 f2 rfl
  match cs, hl with
  | [c0, c1, c2], _ =>
    obtain ⟨n0, e0, _, w0⟩ := DataW.trod_int u0 h0
    obtain ⟨n1, e1, _, w1⟩ := DataW.trod_int u1 h1
    obtain ⟨n2, e2, _, w2⟩ := DataW.trod_int u2 h2
    simp [o0, k0] at e0
    simp [o1, k1] at e1
    simp [o2, k2] at e2
    exact ⟨⟨n0, n1, n2⟩, by rw [e0, e1, e2], w0, w1, w2⟩

theorem open_rgs {t e : TypeId} {f0 f1 f2 : Field} {k : IntKind} {fuel : Nat} {v : Value} {y : DataW H × List MemPlace} (M : Int) (hM : ∀ n, (Lit.int k n).wf = true → 0 ≤ n ∧ n < M)
    (ht : P.underlying t = some (.slice e)) (he : P.underlying e = some (.struct #[f0, f1, f2])) (hone : oneCellFields P #[f0, f1, f2] = true) (hC : P.cellsOf e = 3)
    (u0 : P.underlying f0.type = some (.int k)) (u1 : P.underlying f1.type = some (.int k)) (u2 : P.underlying f2.type = some (.int k))
    (h : DataW.trod enc P w base spare held fuel t [v] = some y) :
    ∃ (A : Option Addr) (l : List Rg) (cap : Nat), v = .slice A l.length cap ∧ l.length ≤ 9223372036854775807 ∧ Rd w w.heap.size k M A l := by
  rcases open_slice ht h with ⟨h0, _⟩ | ⟨a, len, cap, m, n, D, Pl, hcs, hb, hl, hm, hmm, hx, hi⟩
  · simp at h0
    subst h0
    exact ⟨none, [], 0, rfl, by simp, Rd.nil⟩
  · simp at hcs
    subst hcs
    rw [hC] at hi
    have hle : len ≤ m := by rw [hmm]; split <;> omega
    have hall : ∀ i, i < len → ∃ x : Rg, (∃ b off, a = ⟨b, off, none⟩ ∧ w.cell? ⟨b, off + i * 3, none⟩ = some (.int k x.lo) ∧ w.cell? ⟨b, off + i * 3 + 1, none⟩ = some (.int k x.hi) ∧ w.cell? ⟨b, off + i * 3 + 2, none⟩ = some (.int k x.st)) ∧
        0 ≤ x.lo ∧ x.lo < M ∧ 0 ≤ x.hi ∧ x.hi < M ∧ 0 ≤ x.st ∧ x.st < M := by
      intro i hil
      obtain ⟨cs', hc, ht'⟩ := hi i (by omega)
      obtain ⟨_, hcl, hat⟩ := World.cells?_some hc
      obtain ⟨x, hcs', w0, w1, w2⟩ := open_three he hone u0 u1 u2 hcl ht'
      subst hcs'
      have c0 := hat 0 (by omega)
      have c1 := hat 1 (by omega)
      have c2 := hat 2 (by omega)
      rw [Go.Deep.add_add] at c0 c1 c2
      simp only [List.getElem?_cons_zero, List.getElem?_cons_succ] at c0 c1 c2
      obtain ⟨b, off, spot⟩ := a
      have hspot : spot = none := by
        obtain ⟨cs0, hc0, ht0⟩ := hi 0 (by omega)
        obtain ⟨_, hcl0, hat0⟩ := World.cells?_some hc0
        have h1 := hat0 0 (by omega)
        rw [List.getElem?_eq_getElem (by omega)] at h1
        simpa [Addr.add] using World.cell?_spot h1
      subst hspot
      have ad : ∀ j, (⟨b, off, none⟩ : Addr).add j = ⟨b, off + j, none⟩ := fun j => by unfold Addr.add; split <;> simp_all
      rw [ad] at c0 c1 c2
      obtain ⟨p0, p1⟩ := hM _ w0
      obtain ⟨p2, p3⟩ := hM _ w1
      obtain ⟨p4, p5⟩ := hM _ w2
      exact ⟨x, ⟨b, off, rfl, c0, c1, c2⟩, p0, p1, p2, p3, p4, p5⟩
    obtain ⟨l, hll, hp⟩ := listed len hall
    subst hll
    refine ⟨some a, l, cap, rfl, by unfold maxLen at hm; omega, ?_, fun hl0 => ?_⟩
    · intro x hx'
      obtain ⟨i, hi', rfl⟩ := List.getElem_of_mem hx'
      exact (hp i _ (List.getElem?_eq_getElem hi')).2
    · obtain ⟨⟨b, off, ha, c0, _, _⟩, _⟩ := hp 0 _ (List.getElem?_eq_getElem hl0)
      subst ha
      refine ⟨b, off, rfl, ?_, fun i x hx' => ?_⟩
      · exact World.block_lt_of_cell? w _ c0
      · obtain ⟨⟨b', off', ha, d0, d1, d2⟩, _⟩ := hp i x hx'
        injection ha with e1 e2
        subst e1 e2
        exact ⟨d0, d1, d2⟩
end
theorem wf_u16 (n : Int) (h : (Lit.int .u16 n).wf = true) : 0 ≤ n ∧ n < 65536 := by
  simp [Lit.wf, IntKind.min, IntKind.max, IntKind.signed, IntKind.bits] at h
  omega
theorem wf_u32 (n : Int) (h : (Lit.int .u32 n).wf = true) : 0 ≤ n ∧ n < 4294967296 := by
  simp [Lit.wf, IntKind.min, IntKind.max, IntKind.signed, IntKind.bits] at h
  omega
theorem wf_i32 (n : Int) (h : (Lit.int .i32 n).wf = true) : -2147483648 ≤ n ∧ n ≤ 2147483647 := by
  simp [Lit.wf, IntKind.min, IntKind.max, IntKind.signed, IntKind.bits] at h
  omega
end Go.Proofs.Ytanlaigdfgbinaa
