/- Lists of two tables. -/
import Derived.Test.YtnhmacmpobkdoaaTabs
namespace Go.Proofs.Ytnhmacmpobkdoaa
open Go.RowKit
set_option linter.unusedVariables false
theorem two_list {w : World} {g : Nat} {A0 B0 A1 B1 : Option Addr} {c0 d0 c1 d1 : Nat} {t0 t1 : Tab} (hg : Bk w g 27 #[.slice A0 t0.a.length c0, .slice B0 t0.b.length d0, .int .i64 t0.n, .slice A1 t1.a.length c1, .slice B1 t1.b.length d1, .int .i64 t1.n])
    (r0 : Rd w w.heap.size .u16 65536 A0 t0.a) (s0 : Rd w w.heap.size .u32 4294967296 B0 t0.b) (r1 : Rd w w.heap.size .u16 65536 A1 t1.a) (s1 : Rd w w.heap.size .u32 4294967296 B1 t1.b)
    (h0 : t0.a.length ≤ 100 ∧ t0.b.length ≤ 100) (h1 : t1.a.length ≤ 100 ∧ t1.b.length ≤ 100) : RdT w w.heap.size (some ⟨g, 0, none⟩) [t0, t1] := by
  refine ⟨fun t ht => ?_, fun _ => ⟨g, 0, rfl, hg.lt, fun i t ht => ?_⟩⟩
  · simp at ht
    rcases ht with rfl | rfl <;> exact ⟨by omega, by omega⟩
  · match i, ht with
    | 0, ht => simp at ht; subst ht; exact ⟨A0, c0, B0, d0, hg.cell 0, hg.cell 1, hg.cell 2, r0, s0⟩
    | 1, ht => simp at ht; subst ht; exact ⟨A1, c1, B1, d1, hg.cell 3, hg.cell 4, hg.cell 5, r1, s1⟩
    | i + 2, ht => simp at ht
end Go.Proofs.Ytnhmacmpobkdoaa
