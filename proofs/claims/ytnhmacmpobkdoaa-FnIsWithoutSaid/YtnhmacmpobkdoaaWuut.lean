/- The reference's Without, at a range of more bits: all ranges but one, in new memory. -/
import Derived.Test.YtnhmacmpobkdoaaSwap
import Derived.Test.YtnhmacmpobkdoaaSpec
import Derived.Deep.RegionHeld3
import Derived.Deep.RegionWith
import Derived.Deep.RegionLaw
import Derived.Deep.DrawnRows
import Derived.Deep.DeepCutAuto
namespace Go.Proofs.Ytnhmacmpobkdoaa
open Go.RowKit
set_option linter.unusedVariables false
attribute [local go_sem ↓] Go.wp_at_zero Go.wp_at_succ

set_option maxHeartbeats 8000000 in
set_option maxRecDepth 100000 in
theorem without32_any (A16 A32 : Option Addr) (c16 c32 : Nat) (a b : List Rg) (n : Int) (k : Nat) (w : World) (la : a.length ≤ 40) (lb : b.length ≤ 40)
    (ra : Rd w w.heap.size .u16 65536 A16 a) (rb : Rd w w.heap.size .u32 4294967296 A32 b) (na : A16 = none → a.length = 0 ∧ c16 = 0) (nb : A32 = none → b.length = 0 ∧ c32 = 0) (ca : a.length ≤ c16) (cb : b.length ≤ c32) (ca1 : c16 ≤ 9223372036854775807) (cb1 : c32 ≤ 9223372036854775807) (hk : a.length ≤ k) (hk1 : k - a.length < b.length) :
    Calls Try.prog 33 #[.agg #[.slice A16 a.length c16, .slice A32 b.length c32, .int .i64 n], .int .i64 (k : Int)] w (Made w a (b.take (k - a.length) ++ b.drop (k - a.length + 1))) := by
  obtain ⟨i0, hi0, hz0, hz1, hz2⟩ := info_parts info_r16
  obtain ⟨j0, hj0, hy0, hy1, hy2⟩ := info_parts info_r32
  obtain ⟨j, hj⟩ : ∃ j, k = a.length + j := ⟨k - a.length, by omega⟩
  rw [show k - a.length = j from by omega]
  have kz : ¬ ((k : Int) < (a.length : Int)) := by omega
  have kj : (k : Int) - (a.length : Int) = (j : Int) := by omega
  have HJ := Lib.hid hj; clear hj
  have jz : (j : Int) < (b.length : Int) := by have := HJ.out; omega
  have jz0 : (0 : Int) ≤ (j : Int) := by omega
  have hT0 := (Bk.new w 27 #[.slice A16 a.length c16, .slice A32 b.length c32, .int .i64 n]).alloc (.cells #[.slice none 0 0, .slice none 0 0, .int .i64 0] 27)
  have hZ0 := bk_at (W := w.alloc (.cells #[.slice A16 a.length c16, .slice A32 b.length c32, .int .i64 n] 27)) (k := w.heap.size + 1) (by simp) 27 #[.slice none 0 0, .slice none 0 0, .int .i64 0]
  have hb0 := ((Below.refl w.heap.size w).alloc (Nat.le_refl _) (.cells #[.slice A16 a.length c16, .slice A32 b.length c32, .int .i64 n] 27)).alloc (by simp) (.cells #[.slice none 0 0, .slice none 0 0, .int .i64 0] 27)
  have ra0 := ra.to hb0
  have rb0 := rb.to hb0
  go_enter Try.func33, Try.ntmps33
  go_upto_region 1 with fail
  generalize hW : (w.alloc (.cells #[.slice A16 a.length c16, .slice A32 b.length c32, .int .i64 n] 27)).alloc (.cells #[.slice none 0 0, .slice none 0 0, .int .i64 0] 27) = w0 at *
  clear hW
  have keepS : ∀ w', Below w0.heap.size w0 w' → w'.cell? ⟨w.heap.size, 0, none⟩ = some (.slice A16 a.length c16) ∧ w'.cell? ⟨w.heap.size, 1, none⟩ = some (.slice A32 b.length c32) ∧ Below w0.heap.size w0 w' := fun w' h => ⟨(h.cell (p := ⟨w.heap.size, 0, none⟩) hT0.lt).trans (hT0.cell 0), (h.cell (p := ⟨w.heap.size, 1, none⟩) hT0.lt).trans (hT0.cell 1), h⟩
  have KS := Lib.hid keepS; clear keepS
  obtain ⟨y0, y1, hB0⟩ := KS.out w0 (Below.refl _ _)
  go_cut [5] (fun s wx => ∃ (X : Nat) (A : Option Addr) (c : Nat) (A' : Option Addr) (c' : Nat), s = .pointer (some ⟨X, 0, none⟩) ∧ Mk w w.heap.size (w.heap.size + 1) X #[.slice A16 a.length c16, .slice A32 b.length c32, .int .i64 n] #[.slice none 0 0, .slice none 0 0, .int .i64 0] A c a A' c' b wx)
  case first =>
    go_region_held3 (fun w' => w'.cell? ⟨w.heap.size, 0, none⟩ = some (.slice A16 a.length c16) ∧ w'.cell? ⟨w.heap.size, 1, none⟩ = some (.slice A32 b.length c32) ∧ Below w0.heap.size w0 w')
      (first
        | exact KS.out _ (by assumption)
        | exact KS.out _ (Below.drew (by assumption))
        | (go_split_ands; exact KS.out _ (bel_alloc (by assumption)))
        | (go_split_ands; exact KS.out _ (bel_set3 (by assumption) (by omega))))
      (first
        | ((try go_split_ands); refine step_fill w0 (by rfl) _ _ _ (by rfl) 39 i0 _ 6 Try.underlying24 hi0 hz0 hz1 hz2 rfl _ (by rfl) (by assumption) (by omega) (by first | exact bk_at (by simp) _ _ | exact (bk_at (by simp) _ _).alloc _ | exact ((bk_at (by simp) _ _).alloc _).alloc _) .u16 a A16 c16 65536 (by rfl) na ra0 (by unfold maxLen; omega) (by omega) ?_; intro A2 cap w1 hown1 hB1 tr1 tro1 hz1w; have TR1 := Lib.hid tr1; clear tr1 tro1; have hs1 := hB1.size; (try simp only [World.size_alloc, World.size_drew] at hz1w); (try (have hX1 := TR1.out _ 27 #[.slice none 0 0, .slice none 0 0, .int .i64 0] (by first | exact Bk.new _ _ _ | exact (Bk.new _ _ _).alloc _ | exact ((Bk.new _ _ _).alloc _).alloc _) (by first | omega | (simp; done) | (simp; omega)); (try simp only [World.size_alloc] at hX1))))
        | ((try go_split_ands); refine step_fill w0 (by rfl) _ _ _ (by rfl) 65 j0 _ 12 Try.underlying25 hj0 hy0 hy1 hy2 rfl _ (by rfl) (by assumption) (by omega) (by first | exact bk_at (by simp) _ _ | exact (bk_at (by simp) _ _).alloc _ | exact TR1.out _ _ _ (by first | exact bk_at (by simp) _ _ | exact (bk_at (by simp) _ _).alloc _ | exact ((bk_at (by simp) _ _).alloc _).alloc _) (by omega) | exact (TR1.out _ _ _ (by first | exact bk_at (by simp) _ _ | exact (bk_at (by simp) _ _).alloc _ | exact ((bk_at (by simp) _ _).alloc _).alloc _) (by omega)).alloc _) .u32 b A32 c32 4294967296 (by rfl) nb rb0 (by unfold maxLen; omega) (by omega) ?_; intro A3 cap3 w3 hown3 hB3 tr3 tro3 hz3w; have hown1 := tro3 39 _ _ _ (by decide) (by first | exact hown1 | exact hown1.alloc _ | exact (hown1.alloc _).alloc _); have TR3 := Lib.hid tr3; clear tr3 tro3; have hs3 := hB3.size; (try simp only [World.size_alloc] at hz3w); (try (have hXw := TR3.out _ 27 #[.slice none 0 0, .slice none 0 0, .int .i64 0] (by first | exact Bk.new _ _ _ | exact (Bk.new _ _ _).alloc _ | exact hX1 | exact hX1.alloc _ | exact (hX1.alloc _).alloc _) (by first | omega | (simp; done) | (simp; omega)); (try simp only [World.size_alloc] at hXw); have q0 := hXw.cell 0; have q1 := hXw.cell 1; have q2 := hXw.cell 2; have qf := hXw.frozen; simp only [List.getElem?_toArray, List.getElem?_cons_zero, List.getElem?_cons_succ] at q0 q1 q2))))
    all_goals (
      go_wp2_with fail
      go_meet
      first
        | (have hXX := hXw; exact ⟨_, A2, cap, A3, cap3, rfl, Mk.layB hb0 hT0 hZ0 (by omega) hB3 hXX (by omega) hown1 hown3 ra.wf rb.wf⟩)
        | exact ⟨_, A2, cap, A3, cap3, rfl, Mk.layA hb0 hT0 hZ0 (by omega) hB3 hown1 hown3 ra.wf rb.wf⟩)
  case rest =>
    obtain ⟨X, A, c, A', c', rfl, hM⟩ := hcut
    clear y0 y1 hB0 KS hT0 hZ0
    have t0 : wc.cell? ⟨w.heap.size, 0, none⟩ = some (.slice A16 a.length c16) := hM.bkT.cell 0
    have t1 : wc.cell? ⟨w.heap.size, 1, none⟩ = some (.slice A32 b.length c32) := hM.bkT.cell 1
    have hszX := hM.bkX.lt
    have hszT := hM.bkT.lt
    have hszW := hM.bel.size
    have hneT := hM.1.2.2.1
    have hneT' : X ≠ w.heap.size := fun h => hneT h.symm
    have hjl : j < b.length := by omega
    obtain ⟨b1, o1, x, rfl, -⟩ := (rb.below hM.bel).at_ hjl
    have rT := (rb.below hM.bel).take j
    have rD := (rb.below hM.bel).drop (j + 1)
    obtain ⟨lT, lD⟩ := len_parts hjl
    have wP := wf_parts rb.wf j
    generalize hp : b.take j = p at *
    generalize hq : b.drop (j + 1) = q at *
    have HP := Lib.hid hp; have HQ := Lib.hid hq; have HLT := Lib.hid lT; have HLD := Lib.hid lD; clear hp hq lT lD
    have z1 : (j : Int) ≤ (c32 : Int) := by omega
    have z2 : (j : Int) + 1 ≤ (b.length : Int) := by omega
    have z3 : (b.length : Int) ≤ (c32 : Int) := by omega
    have z4 : (0 : Int) ≤ (j : Int) + 1 := by omega
    have kw : IntKind.i64.wrap ((j : Int) + 1) = (j : Int) + 1 := IntWalk.i64_in _ (by omega)
    have kw2 : ((j : Int) + 1).toNat = j + 1 := by omega
    have HM := Lib.hid hM; clear hM
    by_cases hcap : c32 = j + 1
    · have rD2 : Rd wc w.heap.size .u32 4294967296 (some ⟨b1, o1, none⟩) q := by
        have h0 : q = [] := List.eq_nil_of_length_eq_zero (by rw [HLD.out]; omega)
        rw [h0]; exact Rd.nil
      clear rD
      have rD := rD2
      subst hcap
      have zz1 : (j : Int) ≤ (j : Int) + 1 := by omega
      have zz3 : (b.length : Int) ≤ (j : Int) + 1 := by omega
      go_wp2_with fail
      go_region_held3 (fun w' => w'.cell? ⟨w.heap.size, 1, none⟩ = some (.slice (some ⟨b1, o1, none⟩) b.length (j + 1))) (first | assumption | go_keep) (first
          | (refine step_append_all _ (by rfl) _ _ _ (by rfl) wc.heap.size 65 j0 _ 3 12 Try.underlying25 hj0 hy0 hy1 hy2 rfl (by omega) (.slice (some ⟨wc.heap.size, 0, none⟩) 0 0) 0 [] (by rfl) (own_empty (Nat.le_refl _) (heap_alloc_new wc _)) (some ⟨b1, o1, none⟩) j (j + 1) (cellsL .u32 p) (by rfl) (by rw [cellsL_length, HLT.out]) (fun h => by cases h) (rd_news (rT.alloc (by omega) (.cells #[] 65))) (cellsL_one _ _) (by unfold maxLen; omega) (by omega) (by simp) ?_; intro A2 cap2 w8 hown1 hgrow1 hat1; have hB1 := ap_bel (Below.drew (bel_alloc (o := (.cells #[] 65)) (Below.refl wc.heap.size wc))) (World.ownsRow.drew (own_empty (Nat.le_refl _) (heap_alloc_new wc (.cells #[] 65)))) hgrow1; rw [List.nil_append] at hown1; have kT1 := (hB1.cell (p := ⟨w.heap.size, 1, none⟩) hszT).trans t1; clear hgrow1 hat1)
          | (refine step_append_all _ (by rfl) _ _ _ (by rfl) wc.heap.size 65 j0 _ 3 12 Try.underlying25 hj0 hy0 hy1 hy2 rfl (by omega) (.slice A2 (0 + j) cap2) (0 + j) (cellsL .u32 p) (by rfl) hown1 (some ⟨b1, o1, none⟩) 0 _ (cellsL .u32 q) (by rfl) (by rw [cellsL_length, HLD.out]; omega) (fun h => by cases h) (rd_news (rD.below (hB1.mono hszW))) (cellsL_one _ _) (by unfold maxLen; omega) (by omega) hB1.size ?_; intro A3 cap3 w9 hown2 hgrow2 hat2; have hB2 := ap_bel hB1 hown1 hgrow2; have kT2 := (hB2.cell (p := ⟨w.heap.size, 1, none⟩) hszT).trans t1; have hX2 := HM.out.bkX.below hB2 hszX; have xc := hX2.cell 1; have xf := hX2.frozen 1; simp only [List.getElem?_toArray, List.getElem?_cons_zero, List.getElem?_cons_succ] at xc; rw [← cellsL_append] at hown2; clear hgrow2 hat2))
      all_goals (
        replace hown2 := own_len hown2 (by omega : 0 + j + 0 = j)
        have hM := HM.out.swap32 hB2 hown2 (by rw [List.length_append, HLT.out, HLD.out]; omega) wP
        have hL : (p ++ q).length = j := by rw [List.length_append, HLT.out, HLD.out]; omega
        clear HM hown1 hown2 hB1 hB2 kT1 kT2 hX2 xc xf t0 t1 kw kw2 z1 z2 z3 z4 rT rD
        generalize p ++ q = l at *
        generalize w9.setCell ⟨X, 1, none⟩ (.slice A3 (j) cap3) = wz at *
        have hll : l.length ≤ 40 := by omega
        rw [← hL]
        clear hL
        have x0 : wz.cell? ⟨X, 0, none⟩ = some (.slice A a.length c) := hM.bkX.cell 0
        have HLT := Lib.hid (latin_any A c a wz _ (by omega) hM.rd16)
        go_wp2_with fail
        go_at_call 25
        refine HLT.out.mono ?_
        rintro e w9 ⟨rfl, rfl⟩
        clear HLT x0
        have x0 : wz.cell? ⟨X, 0, none⟩ = some (.slice A a.length c) := hM.bkX.cell 0
        have x1 : wz.cell? ⟨X, 1, none⟩ = some (.slice A3 l.length cap3) := hM.bkX.cell 1
        have x2 : wz.cell? ⟨X, 2, none⟩ = some (.int .i64 0) := hM.bkX.cell 2
        have xf : ∀ i, wz.frozen? ⟨X, i, none⟩ = false := fun i => hM.bkX.frozen i
        have z0 : wz.cell? ⟨w.heap.size + 1, 0, none⟩ = some (.slice none 0 0) := hM.bkZ.cell 0
        have z1 : wz.cell? ⟨w.heap.size + 1, 1, none⟩ = some (.slice none 0 0) := hM.bkZ.cell 1
        have z2 : wz.cell? ⟨w.heap.size + 1, 2, none⟩ = some (.int .i64 0) := hM.bkZ.cell 2
        have zf : ∀ i, wz.frozen? ⟨w.heap.size + 1, i, none⟩ = false := fun i => hM.bkZ.frozen i
        have hne : w.heap.size + 1 ≠ X := hM.1.2.2.2.1
        have hne' : X ≠ w.heap.size + 1 := fun h => hne h.symm
        have HD := Lib.hid hM.done
        clear hM
        go_wp2
        obtain ⟨e0, e1, e2, hD⟩ := HD.out
        refine bodyPost_ret (v := .agg #[.slice A a.length c, .slice A3 l.length cap3, .int .i64 (latN a)]) (by simp [results, Try.results33, go_sem, e0, e1, e2]) rfl ?_
        exact hD)
    · have hcap' : ¬ j + 1 = c32 := fun h => hcap h.symm
      go_wp2_with fail
      go_region_held3 (fun w' => w'.cell? ⟨w.heap.size, 1, none⟩ = some (.slice (some ⟨b1, o1, none⟩) b.length c32)) (first | assumption | go_keep) (first
          | (refine step_append_all _ (by rfl) _ _ _ (by rfl) wc.heap.size 65 j0 _ 3 12 Try.underlying25 hj0 hy0 hy1 hy2 rfl (by omega) (.slice (some ⟨wc.heap.size, 0, none⟩) 0 0) 0 [] (by rfl) (own_empty (Nat.le_refl _) (heap_alloc_new wc _)) (some ⟨b1, o1, none⟩) j c32 (cellsL .u32 p) (by rfl) (by rw [cellsL_length, HLT.out]) (fun h => by cases h) (rd_news (rT.alloc (by omega) (.cells #[] 65))) (cellsL_one _ _) (by unfold maxLen; omega) (by omega) (by simp) ?_; intro A2 cap2 w8 hown1 hgrow1 hat1; have hB1 := ap_bel (Below.drew (bel_alloc (o := (.cells #[] 65)) (Below.refl wc.heap.size wc))) (World.ownsRow.drew (own_empty (Nat.le_refl _) (heap_alloc_new wc (.cells #[] 65)))) hgrow1; rw [List.nil_append] at hown1; have kT1 := (hB1.cell (p := ⟨w.heap.size, 1, none⟩) hszT).trans t1; clear hgrow1 hat1)
          | (refine step_append_all _ (by rfl) _ _ _ (by rfl) wc.heap.size 65 j0 _ 3 12 Try.underlying25 hj0 hy0 hy1 hy2 rfl (by omega) (.slice A2 (0 + j) cap2) (0 + j) (cellsL .u32 p) (by rfl) hown1 (some ⟨b1, o1 + (j + 1) * 3, none⟩) (b.length - (j + 1)) _ (cellsL .u32 q) (by rfl) (by rw [cellsL_length, HLD.out]) (fun h => by cases h) (rd_news (rD.below (hB1.mono hszW))) (cellsL_one _ _) (by unfold maxLen; omega) (by omega) hB1.size ?_; intro A3 cap3 w9 hown2 hgrow2 hat2; have hB2 := ap_bel hB1 hown1 hgrow2; have kT2 := (hB2.cell (p := ⟨w.heap.size, 1, none⟩) hszT).trans t1; have hX2 := HM.out.bkX.below hB2 hszX; have xc := hX2.cell 1; have xf := hX2.frozen 1; simp only [List.getElem?_toArray, List.getElem?_cons_zero, List.getElem?_cons_succ] at xc; rw [← cellsL_append] at hown2; clear hgrow2 hat2))
      all_goals (
        replace hown2 := own_len hown2 (by omega : 0 + j + (b.length - (j + 1)) = j + (b.length - (j + 1)))
        have hM := HM.out.swap32 hB2 hown2 (by rw [List.length_append, HLT.out, HLD.out]) wP
        have hL : (p ++ q).length = j + (b.length - (j + 1)) := by rw [List.length_append, HLT.out, HLD.out]
        clear HM hown1 hown2 hB1 hB2 kT1 kT2 hX2 xc xf t0 t1 kw kw2 z1 z2 z3 z4 rT rD
        generalize p ++ q = l at *
        generalize w9.setCell ⟨X, 1, none⟩ (.slice A3 (j + (b.length - (j + 1))) cap3) = wz at *
        have hll : l.length ≤ 40 := by omega
        rw [← hL]
        clear hL
        have x0 : wz.cell? ⟨X, 0, none⟩ = some (.slice A a.length c) := hM.bkX.cell 0
        have HLT := Lib.hid (latin_any A c a wz _ (by omega) hM.rd16)
        go_wp2_with fail
        go_at_call 25
        refine HLT.out.mono ?_
        rintro e w9 ⟨rfl, rfl⟩
        clear HLT x0
        have x0 : wz.cell? ⟨X, 0, none⟩ = some (.slice A a.length c) := hM.bkX.cell 0
        have x1 : wz.cell? ⟨X, 1, none⟩ = some (.slice A3 l.length cap3) := hM.bkX.cell 1
        have x2 : wz.cell? ⟨X, 2, none⟩ = some (.int .i64 0) := hM.bkX.cell 2
        have xf : ∀ i, wz.frozen? ⟨X, i, none⟩ = false := fun i => hM.bkX.frozen i
        have z0 : wz.cell? ⟨w.heap.size + 1, 0, none⟩ = some (.slice none 0 0) := hM.bkZ.cell 0
        have z1 : wz.cell? ⟨w.heap.size + 1, 1, none⟩ = some (.slice none 0 0) := hM.bkZ.cell 1
        have z2 : wz.cell? ⟨w.heap.size + 1, 2, none⟩ = some (.int .i64 0) := hM.bkZ.cell 2
        have zf : ∀ i, wz.frozen? ⟨w.heap.size + 1, i, none⟩ = false := fun i => hM.bkZ.frozen i
        have hne : w.heap.size + 1 ≠ X := hM.1.2.2.2.1
        have hne' : X ≠ w.heap.size + 1 := fun h => hne h.symm
        have HD := Lib.hid hM.done
        clear hM
        go_wp2
        obtain ⟨e0, e1, e2, hD⟩ := HD.out
        refine bodyPost_ret (v := .agg #[.slice A a.length c, .slice A3 l.length cap3, .int .i64 (latN a)]) (by simp [results, Try.results33, go_sem, e0, e1, e2]) rfl ?_
        exact hD)
end Go.Proofs.Ytnhmacmpobkdoaa
