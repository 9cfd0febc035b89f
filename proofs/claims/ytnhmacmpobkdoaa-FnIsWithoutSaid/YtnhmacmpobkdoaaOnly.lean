/- The reference's Only: the table of one range of a table, in new memory. -/
import Derived.Test.YtnhmacmpobkdoaaMkB
import Derived.Test.YtnhmacmpobkdoaaSpec
import Derived.Deep.RegionHeld3
import Derived.Deep.RegionWith
import Derived.Deep.RegionLaw
import Derived.Deep.DrawnRows
namespace Go.Proofs.Ytnhmacmpobkdoaa
open Go.RowKit
set_option linter.unusedVariables false
attribute [local go_sem ↓] Go.wp_at_zero Go.wp_at_succ

set_option maxHeartbeats 4000000 in
set_option maxRecDepth 100000 in
theorem only16_any (A16 A32 : Option Addr) (c16 c32 : Nat) (a b : List Rg) (n : Int) (k : Nat) (w : World) (la : a.length ≤ 40) (lb : b.length ≤ 40)
    (ra : Rd w w.heap.size .u16 65536 A16 a) (rb : Rd w w.heap.size .u32 4294967296 A32 b) (hk : k < a.length) :
    Calls Try.prog 19 #[.agg #[.slice A16 a.length c16, .slice A32 b.length c32, .int .i64 n], .int .i64 (k : Int)] w (Made w [a.getD k ⟨0, 0, 0⟩] []) := by
  obtain ⟨i0, hi0, hz0, hz1, hz2⟩ := info_parts info_r16
  obtain ⟨j0, hj0, hy0, hy1, hy2⟩ := info_parts info_r32
  have hM := Mk.begin w #[.slice A16 a.length c16, .slice A32 b.length c32, .int .i64 n]
  have kz : (k : Int) < (a.length : Int) := by omega
  have kz0 : (0 : Int) ≤ (k : Int) := by omega
  go_enter Try.func19, Try.ntmps19
  go_wp2_with fail
  generalize hX : w.heap.size + 1 + 1 + 1 + 1 = X at *
  have HX := Lib.hid hX; clear hX
  generalize hW : (((((w.alloc (.cells #[.slice A16 a.length c16, .slice A32 b.length c32, .int .i64 n] 27)).alloc (.cells #[.slice none 0 0, .slice none 0 0, .int .i64 0] 27)).alloc (.cells #[] 39)).alloc (.cells #[] 65)).alloc (.cells #[.slice (some ⟨w.heap.size + 1 + 1, 0, none⟩) 0 0, .slice (some ⟨w.heap.size + 1 + 1 + 1, 0, none⟩) 0 0, .int .i64 0] 27)) = wr at *
  have HW := Lib.hid hW; clear hW
  have t0 : wr.cell? ⟨w.heap.size, 0, none⟩ = some (.slice A16 a.length c16) := hM.bkT.cell 0
  have t1 : wr.cell? ⟨w.heap.size, 1, none⟩ = some (.slice A32 b.length c32) := hM.bkT.cell 1
  have hszX := hM.bkX.lt
  have hszW := hM.bel.size
  have hszT := hM.bkT.lt
  obtain ⟨b1, o1, x, rfl, hb1, hx, c0, c1, c2, d1, d2, d3, d4, d5, d6⟩ := (ra.below hM.bel).at_ (i := k) (by omega)
  have Hx := Lib.hid hx; clear hx
  have x0 : wr.cell? ⟨X, 0, none⟩ = some (.slice (some ⟨w.heap.size + 1 + 1, 0, none⟩) 0 0) := hM.bkX.cell 0
  have q2 : ∀ o1, (wr.alloc o1).cell? ⟨X, 0, none⟩ = some (.slice (some ⟨w.heap.size + 1 + 1, 0, none⟩) 0 0) := fun o1 => (hM.alloc o1).bkX.cell 0
  have hown := hM.own16
  have HM := Lib.hid hM; clear hM
  go_wp2_with fail
  go_region_law ((refine step_append_all _ (by rfl) _ _ _ (by rfl) w.heap.size 39 i0 _ 3 6 Try.underlying24 hi0 hz0 hz1 hz2 rfl (by omega) (.slice (some ⟨w.heap.size + 1 + 1, 0, none⟩) 0 0) 0 (cellsL .u16 []) (by rfl) ((hown.alloc _).drew) (some ⟨wr.heap.size, 0, none⟩) 1 1 [.int .u16 x.lo, .int .u16 x.hi, .int .u16 x.st] (by rfl) rfl (fun h => by cases h) (news_one (cs := #[.int .u16 x.lo, .int .u16 x.hi, .int .u16 x.st]) (t := 39) (heap_alloc_new wr _)) (by simp [Value.oneCell']) (by unfold maxLen; omega) (by omega) (by simp; omega) ?_; intro A2 cap w1 hown1 hgrow hat; obtain ⟨e0, e1, hM1⟩ := Mk.push16 (x := x) ((HM.out.alloc (.cells #[.int .u16 x.lo, .int .u16 x.hi, .int .u16 x.st] 39)).drew) rfl ⟨by first | omega | (simp only; omega), by first | omega | (simp only; omega), by first | omega | (simp only; omega), by first | omega | (simp only; omega), by first | omega | (simp only; omega), by first | omega | (simp only; omega)⟩ hown1 hgrow; have HM1 := Lib.hid hM1; clear hM1))
  all_goals (
    clear t0 t1 x0 q2 hown hown1 hgrow hat
    skip
    have hM : Mk w w.heap.size (w.heap.size + 1) X _ #[.slice none 0 0, .slice none 0 0, .int .i64 0] A2 cap [x] (some ⟨w.heap.size + 1 + 1 + 1, 0, none⟩) 0 [] (w1.setCell ⟨X, 0, none⟩ (.slice A2 1 cap)) := HM1.out
    clear HM HM1
    have HMz := Lib.hid hM; clear hM
    go_wp2_with fail
    have hM := HMz.out; clear HMz e0 e1
    generalize w1.setCell ⟨X, 0, none⟩ (.slice A2 1 cap) = wz at *
    have x0 : wz.cell? ⟨X, 0, none⟩ = some (.slice A2 1 cap) := hM.bkX.cell 0
    have HLT := Lib.hid (latin_any A2 cap [x] wz _ (by first | omega | (simp; done) | (simp; omega)) hM.rd16)
    go_wp2_with fail
    go_at_call 25
    refine HLT.out.mono ?_
    rintro e w9 ⟨rfl, rfl⟩
    clear HLT x0
    have x0 : wz.cell? ⟨X, 0, none⟩ = some (.slice A2 1 cap) := hM.bkX.cell 0
    have x1 : wz.cell? ⟨X, 1, none⟩ = some (.slice (some ⟨w.heap.size + 1 + 1 + 1, 0, none⟩) 0 0) := hM.bkX.cell 1
    have x2 : wz.cell? ⟨X, 2, none⟩ = some (.int .i64 0) := hM.bkX.cell 2
    have xf : ∀ i, wz.frozen? ⟨X, i, none⟩ = false := fun i => hM.bkX.frozen i
    have z0 : wz.cell? ⟨w.heap.size + 1, 0, none⟩ = some (.slice none 0 0) := hM.bkZ.cell 0
    have z1 : wz.cell? ⟨w.heap.size + 1, 1, none⟩ = some (.slice none 0 0) := hM.bkZ.cell 1
    have z2 : wz.cell? ⟨w.heap.size + 1, 2, none⟩ = some (.int .i64 0) := hM.bkZ.cell 2
    have zf : ∀ i, wz.frozen? ⟨w.heap.size + 1, i, none⟩ = false := fun i => hM.bkZ.frozen i
    have hne : w.heap.size + 1 ≠ X := hM.1.2.2.2.1
    have hne' : X ≠ w.heap.size + 1 := fun h => hne h.symm
    have HD := Lib.hid (hM.doneL (L := 1) (M := 0) (by first | rfl | simp) (by first | rfl | simp))
    clear hM
    go_wp2
    obtain ⟨e0, e1, e2, hD⟩ := HD.out
    refine bodyPost_ret (v := .agg #[.slice A2 1 cap, .slice (some ⟨w.heap.size + 1 + 1 + 1, 0, none⟩) 0 0, .int .i64 (latN [x])]) (by simp [results, Try.results19, go_sem, e0, e1, e2]) rfl ?_
    rw [Hx.out]
    exact hD)

set_option maxHeartbeats 4000000 in
set_option maxRecDepth 100000 in
theorem only32_any (A16 A32 : Option Addr) (c16 c32 : Nat) (a b : List Rg) (n : Int) (k : Nat) (w : World) (la : a.length ≤ 40) (lb : b.length ≤ 40)
    (ra : Rd w w.heap.size .u16 65536 A16 a) (rb : Rd w w.heap.size .u32 4294967296 A32 b) (hk : a.length ≤ k) (hk1 : k - a.length < b.length) :
    Calls Try.prog 19 #[.agg #[.slice A16 a.length c16, .slice A32 b.length c32, .int .i64 n], .int .i64 (k : Int)] w (Made w [] [b.getD (k - a.length) ⟨0, 0, 0⟩]) := by
  obtain ⟨i0, hi0, hz0, hz1, hz2⟩ := info_parts info_r16
  obtain ⟨j0, hj0, hy0, hy1, hy2⟩ := info_parts info_r32
  have hM := Mk.begin w #[.slice A16 a.length c16, .slice A32 b.length c32, .int .i64 n]
  have kz : ¬ ((k : Int) < (a.length : Int)) := by omega
  have kz1 : (k : Int) - (a.length : Int) < (b.length : Int) := by omega
  have kz0 : (0 : Int) ≤ (k : Int) - (a.length : Int) := by omega
  go_enter Try.func19, Try.ntmps19
  go_wp2_with fail
  generalize hX : w.heap.size + 1 + 1 + 1 + 1 = X at *
  have HX := Lib.hid hX; clear hX
  generalize hW : (((((w.alloc (.cells #[.slice A16 a.length c16, .slice A32 b.length c32, .int .i64 n] 27)).alloc (.cells #[.slice none 0 0, .slice none 0 0, .int .i64 0] 27)).alloc (.cells #[] 39)).alloc (.cells #[] 65)).alloc (.cells #[.slice (some ⟨w.heap.size + 1 + 1, 0, none⟩) 0 0, .slice (some ⟨w.heap.size + 1 + 1 + 1, 0, none⟩) 0 0, .int .i64 0] 27)) = wr at *
  have HW := Lib.hid hW; clear hW
  have t0 : wr.cell? ⟨w.heap.size, 0, none⟩ = some (.slice A16 a.length c16) := hM.bkT.cell 0
  have t1 : wr.cell? ⟨w.heap.size, 1, none⟩ = some (.slice A32 b.length c32) := hM.bkT.cell 1
  have hszX := hM.bkX.lt
  have hszW := hM.bel.size
  have hszT := hM.bkT.lt
  obtain ⟨b1, o1, x, rfl, hb1, hx, c0, c1, c2, d1, d2, d3, d4, d5, d6⟩ := (rb.below hM.bel).at_ (i := (k - a.length)) (by omega)
  have Hx := Lib.hid hx; clear hx
  have x0 : wr.cell? ⟨X, 1, none⟩ = some (.slice (some ⟨w.heap.size + 1 + 1 + 1, 0, none⟩) 0 0) := hM.bkX.cell 1
  have q2 : ∀ o1, (wr.alloc o1).cell? ⟨X, 1, none⟩ = some (.slice (some ⟨w.heap.size + 1 + 1 + 1, 0, none⟩) 0 0) := fun o1 => (hM.alloc o1).bkX.cell 1
  have hown := hM.own32
  have HM := Lib.hid hM; clear hM
  go_wp2_with fail
  have kw : IntKind.i64.wrap ((k : Int) - (a.length : Int)) = (k : Int) - (a.length : Int) := IntWalk.i64_in _ (by omega)
  have kw2 : ((k : Int) - (a.length : Int)).toNat = k - a.length := by omega
  go_region_law ((refine step_append_all _ (by rfl) _ _ _ (by rfl) w.heap.size 65 j0 _ 3 12 Try.underlying25 hj0 hy0 hy1 hy2 rfl (by omega) (.slice (some ⟨w.heap.size + 1 + 1 + 1, 0, none⟩) 0 0) 0 (cellsL .u32 []) (by rfl) ((hown.alloc _).drew) (some ⟨wr.heap.size, 0, none⟩) 1 1 [.int .u32 x.lo, .int .u32 x.hi, .int .u32 x.st] (by rfl) rfl (fun h => by cases h) (news_one (cs := #[.int .u32 x.lo, .int .u32 x.hi, .int .u32 x.st]) (t := 65) (heap_alloc_new wr _)) (by simp [Value.oneCell']) (by unfold maxLen; omega) (by omega) (by simp; omega) ?_; intro A2 cap w1 hown1 hgrow hat; obtain ⟨e0, e1, hM1⟩ := Mk.push32 (x := x) ((HM.out.alloc (.cells #[.int .u32 x.lo, .int .u32 x.hi, .int .u32 x.st] 65)).drew) rfl ⟨by first | omega | (simp only; omega), by first | omega | (simp only; omega), by first | omega | (simp only; omega), by first | omega | (simp only; omega), by first | omega | (simp only; omega), by first | omega | (simp only; omega)⟩ hown1 hgrow; have HM1 := Lib.hid hM1; clear hM1))
  all_goals (
    clear t0 t1 x0 q2 hown hown1 hgrow hat kw kw2
    skip
    have hM : Mk w w.heap.size (w.heap.size + 1) X _ #[.slice none 0 0, .slice none 0 0, .int .i64 0] (some ⟨w.heap.size + 1 + 1, 0, none⟩) 0 [] A2 cap [x] (w1.setCell ⟨X, 1, none⟩ (.slice A2 1 cap)) := HM1.out
    clear HM HM1
    have k0 : w1.cell? ⟨X, 0, none⟩ = some (.slice (some ⟨w.heap.size + 1 + 1, 0, none⟩) 0 0) := by
      have := hM.bkX.cell 0
      rw [World.cell?_setCell_other _ _ _ _ (fun h => by injection h with _ h; omega)] at this
      exact this
    have HMz := Lib.hid hM; clear hM
    go_wp2_with fail
    have hM := HMz.out; clear HMz e0 e1 k0
    generalize w1.setCell ⟨X, 1, none⟩ (.slice A2 1 cap) = wz at *
    have x0 : wz.cell? ⟨X, 0, none⟩ = some (.slice (some ⟨w.heap.size + 1 + 1, 0, none⟩) 0 0) := hM.bkX.cell 0
    have HLT := Lib.hid (latin_any (some ⟨w.heap.size + 1 + 1, 0, none⟩) 0 [] wz _ (by first | omega | (simp; done) | (simp; omega)) hM.rd16)
    go_wp2_with fail
    go_at_call 25
    refine HLT.out.mono ?_
    rintro e w9 ⟨rfl, rfl⟩
    clear HLT x0
    have x0 : wz.cell? ⟨X, 0, none⟩ = some (.slice (some ⟨w.heap.size + 1 + 1, 0, none⟩) 0 0) := hM.bkX.cell 0
    have x1 : wz.cell? ⟨X, 1, none⟩ = some (.slice A2 1 cap) := hM.bkX.cell 1
    have x2 : wz.cell? ⟨X, 2, none⟩ = some (.int .i64 0) := hM.bkX.cell 2
    have xf : ∀ i, wz.frozen? ⟨X, i, none⟩ = false := fun i => hM.bkX.frozen i
    have z0 : wz.cell? ⟨w.heap.size + 1, 0, none⟩ = some (.slice none 0 0) := hM.bkZ.cell 0
    have z1 : wz.cell? ⟨w.heap.size + 1, 1, none⟩ = some (.slice none 0 0) := hM.bkZ.cell 1
    have z2 : wz.cell? ⟨w.heap.size + 1, 2, none⟩ = some (.int .i64 0) := hM.bkZ.cell 2
    have zf : ∀ i, wz.frozen? ⟨w.heap.size + 1, i, none⟩ = false := fun i => hM.bkZ.frozen i
    have hne : w.heap.size + 1 ≠ X := hM.1.2.2.2.1
    have hne' : X ≠ w.heap.size + 1 := fun h => hne h.symm
    have HD := Lib.hid (hM.doneL (L := 0) (M := 1) (by first | rfl | simp) (by first | rfl | simp))
    clear hM
    go_wp2
    obtain ⟨e0, e1, e2, hD⟩ := HD.out
    refine bodyPost_ret (v := .agg #[.slice (some ⟨w.heap.size + 1 + 1, 0, none⟩) 0 0, .slice A2 1 cap, .int .i64 (latN [])]) (by simp [results, Try.results19, go_sem, e0, e1, e2]) rfl ?_
    rw [Hx.out]
    exact hD)

end Go.Proofs.Ytnhmacmpobkdoaa
