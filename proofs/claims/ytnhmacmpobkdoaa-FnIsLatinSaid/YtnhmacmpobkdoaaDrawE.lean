/- The generators' table: a table in new memory; nothing else is changed but the reader. -/
import Derived.Test.YtnhmacmpobkdoaaDrawD
import Derived.Test.YtnhmacmpobkdoaaSpec
namespace Go.Proofs.Ytnhmacmpobkdoaa
open Go.RowKit
set_option linter.unusedVariables false

/-- A table whose two lists lie in rows of the call's own. -/
def TabO (w : World) (base : Nat) (A16 : Option Addr) (c16 : Nat) (A32 : Option Addr) (c32 : Nat) (a b : List Rg) : Prop :=
  w.ownsRow base 39 3 (.slice A16 a.length c16) a.length (cellsL .u16 a) ∧ w.ownsRow base 65 3 (.slice A32 b.length c32) b.length (cellsL .u32 b) ∧ Wf 65536 a ∧ Wf 4294967296 b ∧ a.length ≤ 40 ∧ b.length ≤ 40
section
variable {w w' : World} {base : Nat} {A16 A32 : Option Addr} {c16 c32 : Nat} {a b : List Rg}
theorem TabO.rd16 (h : TabO w base A16 c16 A32 c32 a b) : Rd w w.heap.size .u16 65536 A16 a := own_rd h.1 rfl h.2.2.1
theorem TabO.rd32 (h : TabO w base A16 c16 A32 c32 a b) : Rd w w.heap.size .u32 4294967296 A32 b := own_rd h.2.1 rfl h.2.2.2.1
theorem TabO.below (h : TabO w base A16 c16 A32 c32 a b) (hb : Below w.heap.size w w') : TabO w' base A16 c16 A32 c32 a b := ⟨own_below h.1 hb, own_below h.2.1 hb, h.2.2⟩
theorem TabO.mono {base' : Nat} (h : TabO w base A16 c16 A32 c32 a b) (hb : base' ≤ base) : TabO w base' A16 c16 A32 c32 a b := ⟨own_mono h.1 hb, own_mono h.2.1 hb, h.2.2⟩
theorem TabO.only {R : Nat} {t : TypeId} {cs : Array Value} (h : TabO w base A16 c16 A32 c32 a b) (hR : Bk w R t cs) (h1 : 39 ≠ t) (h2 : 65 ≠ t) (ho : Only R w w') : TabO w' base A16 c16 A32 c32 a b :=
  ⟨own_only h.1 hR h1 ho, own_only h.2.1 hR h2 ho, h.2.2⟩
end

/-- What spec.table leaves. -/
def Tabbed (w : World) (R base : Nat) (A : Option Addr) (n c q : Nat) (e : Ending) (w' : World) : Prop :=
  ∃ (A16 : Option Addr) (c16 : Nat) (A32 : Option Addr) (c32 : Nat) (a b : List Rg) (q' : Nat), e = .returned (.agg #[.slice A16 a.length c16, .slice A32 b.length c32, .int .i64 (latN a)]) ∧
    TabO w' w.heap.size A16 c16 A32 c32 a b ∧ q' ≤ q + 1000 ∧ St w' R base A n c q' ∧ Only R w w'

set_option maxHeartbeats 2000000 in
set_option maxRecDepth 100000 in
theorem drawTable_any (R base : Nat) (A : Option Addr) (n c q : Nat) (w : World) (hS : St w R base A n c q) (hq : q ≤ 1099511500000) :
    Calls Try.prog 39 #[.pointer (some ⟨R, 0, none⟩)] w (Tabbed w R base A n c q) := by
  have hRw := hS.lt
  have hX := Bk.new w 27 #[.slice none 0 0, .slice none 0 0, .int .i64 0]
  have hS0 := hS.alloc (.cells #[.slice none 0 0, .slice none 0 0, .int .i64 0] 27)
  have hO := one_any R base A n c q (w.heap.size + 1) [2, 3, 1, 5, 0, 12, 40] 0 40 _ (hS0.alloc (.cells #[.int .i64 2, .int .i64 3, .int .i64 1, .int .i64 5, .int .i64 0, .int .i64 12, .int .i64 40] 3)) (by omega) (by simp) (by simp)
    (by have := Bk.new (w.alloc (.cells #[.slice none 0 0, .slice none 0 0, .int .i64 0] 27)) 3 #[.int .i64 2, .int .i64 3, .int .i64 1, .int .i64 5, .int .i64 0, .int .i64 12, .int .i64 40]; rw [World.size_alloc] at this; exact this) (by intro z hz; simp at hz; omega)
  have HO := Lib.hid hO; clear hO
  have ho0 := ((Only.refl R w).alloc (.cells #[.slice none 0 0, .slice none 0 0, .int .i64 0] 27)).alloc (.cells #[.int .i64 2, .int .i64 3, .int .i64 1, .int .i64 5, .int .i64 0, .int .i64 12, .int .i64 40] 3)
  have hX0 := hX.alloc (.cells #[.int .i64 2, .int .i64 3, .int .i64 1, .int .i64 5, .int .i64 0, .int .i64 12, .int .i64 40] 3)
  have hne : some w.heap.size ≠ some R := fun h => by injection h; omega
  clear hX hS hS0
  go_enter Try.func39, Try.ntmps39
  go_wp2_with fail
  go_at_call 47
  refine HO.out.mono ?_
  rintro e w1 ⟨z, q1, rfl, g0, g1, hq1, hS1, ho1⟩
  obtain ⟨N, rfl⟩ := Int.eq_ofNat_of_zero_le g0
  have oa := ho0.trans ho1
  have hX1 := hX0.grown ho1 hne
  clear HO ho0 hX0 ho1
  have HR := Lib.hid (ranges16_any R base A n c q1 N w1 hS1 (by omega) (by omega))
  go_wp2_with fail
  go_at_call 50
  refine HR.out.mono ?_
  rintro e w2 ⟨A16, c16, a, q2, rfl, hla, hq2, hw16, hwf, hS2, ho2⟩
  have ob := oa.trans ho2
  have hX2 := hX1.grown ho2 hne
  have hw16' := own_mono hw16 oa.size
  clear HR oa hX1 hw16 ho2 hS1
  have HO := Lib.hid (one_any R base A n c q2 w2.heap.size [1, 0, 2, (N : Int), 20] 0 40 _ (hS2.alloc (.cells #[.int .i64 1, .int .i64 0, .int .i64 2, .int .i64 (N : Int), .int .i64 20] 3)) (by omega) (by simp) (by simp) (Bk.new _ _ _) (by intro z hz; simp at hz; omega))
  have hw16a := hw16'.alloc (.cells #[.int .i64 1, .int .i64 0, .int .i64 2, .int .i64 (N : Int), .int .i64 20] 3)
  have hS2a := hS2.alloc (.cells #[.int .i64 1, .int .i64 0, .int .i64 2, .int .i64 (N : Int), .int .i64 20] 3)
  have hX2a := hX2.alloc (.cells #[.int .i64 1, .int .i64 0, .int .i64 2, .int .i64 (N : Int), .int .i64 20] 3)
  have oba := ob.alloc (.cells #[.int .i64 1, .int .i64 0, .int .i64 2, .int .i64 (N : Int), .int .i64 20] 3)
  clear hS2 hw16' hX2 ob
  go_wp2_with fail
  go_at_call 47
  refine HO.out.mono ?_
  rintro e w3 ⟨z, q3, rfl, i0, i1, hq3, hS3, ho3⟩
  obtain ⟨K, rfl⟩ := Int.eq_ofNat_of_zero_le i0
  have oc := oba.trans ho3
  have hX3 := hX2a.grown ho3 hne
  have hw3 := own_only hw16a hS2a.bk (by decide) ho3
  clear HO hw16a hX2a oba ho3 hS2a
  have HR := Lib.hid (ranges32_any R base A n c q3 K w3 hS3 (by omega) (by omega))
  go_wp2_with fail
  go_at_call 51
  refine HR.out.mono ?_
  rintro e w4 ⟨A32, c32, b, q4, rfl, hlb, hq4, hw32, hwf2, hS4, ho4⟩
  have od := oc.trans ho4
  have hX4 := hX3.grown ho4 hne
  have hw4 := own_only hw3 hS3.bk (by decide) ho4
  have hT4 : TabO w4 w.heap.size A16 c16 A32 c32 a b := ⟨hw4, own_mono hw32 oc.size, hwf, hwf2, by omega, by omega⟩
  clear HR oc hX3 hw3 hw32 ho4 hw4 hS3
  have hsz4 := hX4.lt
  have hal := (Below.refl w4.heap.size w4).alloc (Nat.le_refl _) (.cells #[.slice A16 a.length c16, .slice A32 b.length c32, .int .i64 0] 27)
  have HLa := Lib.hid (latin_any A16 c16 a _ _ (by omega) ((hT4.below hal).rd16))
  have y0 : w4.cell? ⟨w.heap.size, 0, none⟩ = some (.slice none 0 0) := by rw [hX4.cell]; rfl
  have y1 : w4.cell? ⟨w.heap.size, 1, none⟩ = some (.slice none 0 0) := by rw [hX4.cell]; rfl
  have y2 : w4.cell? ⟨w.heap.size, 2, none⟩ = some (.int .i64 0) := by rw [hX4.cell]; rfl
  have yf : ∀ i, w4.frozen? ⟨w.heap.size, i, none⟩ = false := fun i => hX4.frozen i
  go_wp2_with (go_at_call 25; go_must (refine HLa.out.mono ?_; rintro e w5 ⟨rfl, rfl⟩))
  have hB : base ≤ w.heap.size := by have := hS4.1; omega
  have o3 := (((Only.refl w.heap.size w4).store 0 (.slice A16 a.length c16)).store 1 (.slice A32 b.length c32)).store 2 (.int .i64 (latN a))
  have hT5 := hT4.only hX4 (by decide) (by decide) o3
  have hS5 := hS4.grown o3 (fun h => hne h.symm) (fun k hk => by injection hk; omega)
  have hO5 := od.grown o3 (fun k hk => by injection hk; omega)
  have hXf : Bk ((((w4.setCell ⟨w.heap.size, 0, none⟩ (.slice A16 a.length c16)).setCell ⟨w.heap.size, 1, none⟩ (.slice A32 b.length c32)).setCell ⟨w.heap.size, 2, none⟩ (.int .i64 (latN a))).alloc (.cells #[.slice A16 a.length c16, .slice A32 b.length c32, .int .i64 (latN a)] 27)) w.heap.size 27 #[.slice A16 a.length c16, .slice A32 b.length c32, .int .i64 (latN a)] := (((hX4.set_ 0 _).set_ 1 _).set_ 2 _).alloc _
  have e0 : World.cell? _ ⟨w.heap.size, 0, none⟩ = some (.slice A16 a.length c16) := hXf.cell 0
  have e1 : World.cell? _ ⟨w.heap.size, 1, none⟩ = some (.slice A32 b.length c32) := hXf.cell 1
  have e2 : World.cell? _ ⟨w.heap.size, 2, none⟩ = some (.int .i64 (latN a)) := hXf.cell 2
  refine bodyPost_ret (v := .agg #[.slice A16 a.length c16, .slice A32 b.length c32, .int .i64 (latN a)]) (by simp [results, Try.results39, go_sem, e0, e1, e2]) rfl ⟨A16, c16, A32, c32, a, b, q4, rfl, ?_, by omega, hS5.alloc _, hO5.alloc _⟩
  exact hT5.below ((Below.refl _ _).alloc (Nat.le_refl _) _)
end Go.Proofs.Ytnhmacmpobkdoaa
