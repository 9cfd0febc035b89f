/- The reference's Ends: a table whose ranges end with their last number, in new memory. -/
import Derived.Test.YtnhmacmpobkdoaaMkN
import Derived.Test.YtnhmacmpobkdoaaSpec
import Derived.Deep.RegionHeld3
import Derived.Deep.RegionWith
import Derived.Deep.RegionLaw
import Derived.Deep.DrawnRows
import Derived.Deep.DeepCutAuto
namespace Go.Proofs.Ytnhmacmpobkdoaa
open Go.RowKit
set_option linter.unusedVariables false
attribute [local go_sem ↓] Go.wp_at_zero Go.wp_at_succ

set_option maxHeartbeats 4000000 in
set_option maxRecDepth 100000 in
theorem ends_any (A16 A32 : Option Addr) (c16 c32 : Nat) (a b : List Rg) (n : Int) (w : World) (la : a.length ≤ 40) (lb : b.length ≤ 40)
    (ra : Rd w w.heap.size .u16 65536 A16 a) (rb : Rd w w.heap.size .u32 4294967296 A32 b) (sa : Stp a) (sb : Stp b) (na : A16 = none → a.length = 0 ∧ c16 = 0) (nb : A32 = none → b.length = 0 ∧ c32 = 0) :
    Calls Try.prog 23 #[.agg #[.slice A16 a.length c16, .slice A32 b.length c32, .int .i64 n]] w (Made w (endsL a) (endsL b)) := by
  obtain ⟨i0, hi0, hz0, hz1, hz2⟩ := info_parts info_r16
  obtain ⟨j0, hj0, hy0, hy1, hy2⟩ := info_parts info_r32
  have hT0 := (Bk.new w 27 #[.slice A16 a.length c16, .slice A32 b.length c32, .int .i64 n]).alloc (.cells #[.slice none 0 0, .slice none 0 0, .int .i64 0] 27)
  have hZ0 := bk_at (W := w.alloc (.cells #[.slice A16 a.length c16, .slice A32 b.length c32, .int .i64 n] 27)) (k := w.heap.size + 1) (by simp) 27 #[.slice none 0 0, .slice none 0 0, .int .i64 0]
  have hb0 := ((Below.refl w.heap.size w).alloc (Nat.le_refl _) (.cells #[.slice A16 a.length c16, .slice A32 b.length c32, .int .i64 n] 27)).alloc (by simp) (.cells #[.slice none 0 0, .slice none 0 0, .int .i64 0] 27)
  have ra0 := ra.to hb0
  have rb0 := rb.to hb0
  go_enter Try.func23, Try.ntmps23
  go_upto_region 1 with fail
  generalize hW : (w.alloc (.cells #[.slice A16 a.length c16, .slice A32 b.length c32, .int .i64 n] 27)).alloc (.cells #[.slice none 0 0, .slice none 0 0, .int .i64 0] 27) = w0 at *
  clear hW
  have keepS : ∀ w', Below w0.heap.size w0 w' → w'.cell? ⟨w.heap.size, 0, none⟩ = some (.slice A16 a.length c16) ∧ w'.cell? ⟨w.heap.size, 1, none⟩ = some (.slice A32 b.length c32) ∧ Below w0.heap.size w0 w' := fun w' h => ⟨(h.cell (p := ⟨w.heap.size, 0, none⟩) hT0.lt).trans (hT0.cell 0), (h.cell (p := ⟨w.heap.size, 1, none⟩) hT0.lt).trans (hT0.cell 1), h⟩
  have KS := Lib.hid keepS; clear keepS
  obtain ⟨y0, y1, hB0⟩ := KS.out w0 (Below.refl _ _)
  go_cut [3] (fun s wx => ∃ (X : Nat) (A : Option Addr) (c : Nat) (A' : Option Addr) (c' : Nat), s = .pointer (some ⟨X, 0, none⟩) ∧ Mk w w.heap.size (w.heap.size + 1) X #[.slice A16 a.length c16, .slice A32 b.length c32, .int .i64 n] #[.slice none 0 0, .slice none 0 0, .int .i64 0] A c a A' c' b wx)
  case first =>
    go_region_held3 (fun w' => w'.cell? ⟨w.heap.size, 0, none⟩ = some (.slice A16 a.length c16) ∧ w'.cell? ⟨w.heap.size, 1, none⟩ = some (.slice A32 b.length c32) ∧ Below w0.heap.size w0 w')
      (first
        | exact KS.out _ (by assumption)
        | exact KS.out _ (Below.drew (by assumption))
        | (go_split_ands; exact KS.out _ (bel_alloc (by assumption)))
        | (go_split_ands; exact KS.out _ (bel_set3 (by assumption) (by omega))))
      (first
        | ((try go_split_ands); refine step_fill w0 (by rfl) _ _ _ (by rfl) 39 i0 _ 6 Try.underlying24 hi0 hz0 hz1 hz2 rfl _ (by rfl) (by assumption) (by omega) (by first | exact bk_at (by simp) _ _ | exact (bk_at (by simp) _ _).alloc _ | exact ((bk_at (by simp) _ _).alloc _).alloc _) .u16 a A16 c16 65536 (by rfl) na ra0 (by unfold maxLen; omega) (by omega) ?_; intro A2 cap w1 hown1 hB1 tr1 tro1 hz1w; have TR1 := Lib.hid tr1; clear tr1 tro1; have hs1 := hB1.size; (try simp only [World.size_alloc, World.size_drew] at hz1w); (try (have hX1 := TR1.out _ 27 #[.slice none 0 0, .slice none 0 0, .int .i64 0] (by first | exact Bk.new _ _ _ | exact (Bk.new _ _ _).alloc _ | exact ((Bk.new _ _ _).alloc _).alloc _) (by first | omega | (simp; done) | (simp; omega)); (try simp only [World.size_alloc] at hX1))))
        | ((try go_split_ands); refine step_fill w0 (by rfl) _ _ _ (by rfl) 65 j0 _ 12 Try.underlying25 hj0 hy0 hy1 hy2 rfl _ (by rfl) (by assumption) (by omega) (by first | exact bk_at (by simp) _ _ | exact (bk_at (by simp) _ _).alloc _ | exact TR1.out _ _ _ (by first | exact bk_at (by simp) _ _ | exact (bk_at (by simp) _ _).alloc _ | exact ((bk_at (by simp) _ _).alloc _).alloc _) (by omega) | exact (TR1.out _ _ _ (by first | exact bk_at (by simp) _ _ | exact (bk_at (by simp) _ _).alloc _ | exact ((bk_at (by simp) _ _).alloc _).alloc _) (by omega)).alloc _) .u32 b A32 c32 4294967296 (by rfl) nb rb0 (by unfold maxLen; omega) (by omega) ?_; intro A3 cap3 w3 hown3 hB3 tr3 tro3 hz3w; have hown1 := tro3 39 _ _ _ (by decide) (by first | exact hown1 | exact hown1.alloc _ | exact (hown1.alloc _).alloc _); have TR3 := Lib.hid tr3; clear tr3 tro3; have hs3 := hB3.size; (try simp only [World.size_alloc] at hz3w); (try (have hXw := TR3.out _ 27 #[.slice none 0 0, .slice none 0 0, .int .i64 0] (by first | exact Bk.new _ _ _ | exact (Bk.new _ _ _).alloc _ | exact hX1 | exact hX1.alloc _ | exact (hX1.alloc _).alloc _) (by first | omega | (simp; done) | (simp; omega)); (try simp only [World.size_alloc] at hXw); have q0 := hXw.cell 0; have q1 := hXw.cell 1; have q2 := hXw.cell 2; have qf := hXw.frozen; simp only [List.getElem?_toArray, List.getElem?_cons_zero, List.getElem?_cons_succ] at q0 q1 q2))))
    all_goals (
      go_wp2_with fail
      go_meet
      first
        | (have hXX := hXw; exact ⟨_, A2, cap, A3, cap3, rfl, Mk.layB hb0 hT0 hZ0 (by omega) hB3 hXX (by omega) hown1 hown3 ra.wf rb.wf⟩)
        | exact ⟨_, A2, cap, A3, cap3, rfl, Mk.layA hb0 hT0 hZ0 (by omega) hB3 hown1 hown3 ra.wf rb.wf⟩)
  case rest =>
    obtain ⟨X, A, c, A', c', rfl, hM⟩ := hcut
    clear y0 y1 hB0 KS hT0 hZ0
    have hN := MkN.of hM; clear hM
    go_wp2
    go_loopw [4] (fun s wr => ∃ (i : Nat), i ≤ a.length ∧ s = .int .i64 (i : Int) ∧ MkN w w.heap.size (w.heap.size + 1) X #[.slice A16 a.length c16, .slice A32 b.length c32, .int .i64 n] #[.slice none 0 0, .slice none 0 0, .int .i64 0] A c (mixL end1 a i) A' c' b 0 wr) (fun s _ => a.length - (intOf s).toNat)
    case atStart => exact ⟨0, Nat.zero_le _, rfl, by rw [mixL_zero]; exact hN⟩
    case round =>
      clear hN
      obtain ⟨i, hi, rfl, hN⟩ := hrel
      have x0 : wr.cell? ⟨X, 0, none⟩ = some (.slice A a.length c) := by have := hN.bkX.cell 0; simp only [mixL_length] at this; exact this
      have hszX := hN.bkX.lt
      have hszW := hN.bel.size
      by_cases hlt : i < a.length
      · obtain ⟨g, rfl, hgl, hgT, hgZ, hgX⟩ := hN.form16 (by rw [mixL_length]; omega)
        obtain ⟨x, hx⟩ : ∃ x, a[i]? = some x := ⟨_, List.getElem?_eq_getElem hlt⟩
        have hxm := (mixL_at end1 hlt).trans hx
        obtain ⟨p0, p1, p2, pf, d1, d2, d3, d4, d5, d6⟩ := hN.at16 hxm
        obtain ⟨f1, f2⟩ := sa x (List.mem_of_getElem? hx)
        obtain ⟨e1, e2⟩ := emod_le (a := x.hi - x.lo) (b := x.st) (by omega) f1
        obtain ⟨q, hq⟩ : ∃ q, (x.hi - x.lo) % x.st = q := ⟨_, rfl⟩
        rw [hq] at e1 e2
        have hend : end1 x = ⟨x.lo, x.hi - q, x.st⟩ := by simp only [end1, hq]
        obtain ⟨s0, s1, s2⟩ := cellsL_set .u16 (x.hi - q) (mixL end1 a i) i x hxm
        have hN1 := fun W (hW : MkN w w.heap.size (w.heap.size + 1) X #[.slice A16 a.length c16, .slice A32 b.length c32, .int .i64 n] #[.slice none 0 0, .slice none 0 0, .int .i64 0] (some ⟨g, 0, none⟩) c (mixL end1 a i) A' c' b 0 W) => hW.set16 s1 ⟨by first | omega | (simp only; omega), by first | omega | (simp only; omega), by first | omega | (simp only; omega), by first | omega | (simp only; omega), by first | omega | (simp only; omega), by first | omega | (simp only; omega)⟩
        have hms := mixL_set end1 hx
        rw [hend] at hms
        rw [hms] at hN1
        have HN1 := Lib.hid hN1; clear s0 s1 s2 hN1 hms hx hend
        have hq2 : (x.hi - x.lo).tmod x.st = q := by rw [Int.tmod_eq_emod_of_nonneg (by omega)]; exact hq
        have k1 : IntKind.u16.wrap (x.hi - x.lo) = x.hi - x.lo := IntWalk.u16_in _ (by omega)
        have k2 : IntKind.u16.wrap q = q := IntWalk.u16_in _ (by omega)
        have k3 : IntKind.u16.wrap (x.hi - q) = x.hi - q := IntWalk.u16_in _ (by omega)
        have k4 : (x.st == 0) = false := by simp; omega
        have iz0 : (0 : Int) ≤ (i : Int) := by omega
        have iz1 : (i : Int) < (a.length : Int) := by omega
        have hn5 : wr.heap.size ≠ g := by omega
        have hn5' : g ≠ wr.heap.size := by omega
        have hnX' : g ≠ X := fun h => hgX h.symm
        have hN5 := hN.alloc (.cells #[.int .u16 x.lo, .int .u16 x.hi, .int .u16 x.st] 39)
        obtain ⟨-, r1, -, rf, -⟩ := hN5.at16 hxm
        have x5 : (wr.alloc (.cells #[.int .u16 x.lo, .int .u16 x.hi, .int .u16 x.st] 39)).cell? ⟨X, 0, none⟩ = some (.slice (some ⟨g, 0, none⟩) a.length c) := by have := hN5.bkX.cell 0; simp only [mixL_length] at this; exact this
        have hB5 := Bk.new wr 39 #[.int .u16 x.lo, .int .u16 x.hi, .int .u16 x.st]
        have y0 := hB5.cell 0
        have y1 := hB5.cell 1
        have y2 := hB5.cell 2
        simp only [List.getElem?_toArray, List.getElem?_cons_zero, List.getElem?_cons_succ] at y0 y1 y2
        have HN5 := Lib.hid hN5; clear hN hN5 hB5 hxm
        have k5 : x.st ≠ 0 := by omega
        have k6 : ¬ (x.st = 0) := by omega
        go_wp2_with fail
        clear x0 p0 p1 p2 pf
        generalize hw5 : wr.alloc (.cells #[.int .u16 x.lo, .int .u16 x.hi, .int .u16 x.st] 39) = w5 at *
        clear hw5
        generalize hx5 : wr.heap.size = bx at *
        clear hx5
        go_region_held3 (fun w' => w'.cell? ⟨X, 0, none⟩ = some (.slice (some ⟨g, 0, none⟩) a.length c) ∧ w'.cell? ⟨bx, 0, none⟩ = some (.int .u16 x.lo) ∧ w'.cell? ⟨bx, 1, none⟩ = some (.int .u16 x.hi) ∧ w'.cell? ⟨bx, 2, none⟩ = some (.int .u16 x.st)) (go_keep) (fail)
        all_goals (
          clear x5 y0 y1 y2 hq hq2 k1 k2 k3 k4 k5 k6
          go_wp2
          go_roundw
          case rel => exact ⟨i + 1, by omega, by go_num, HN1.out _ HN5.out.drew⟩
          case measure => simp [intOf]; omega)
      · have hlz : ¬ ((i : Int) < (a.length : Int)) := by omega
        rw [mixL_end end1 hi hlt] at hN
        clear hi hlt
        have HN0 := Lib.hid hN; clear hN
        go_wp2
        clear x0 hszX hszW hlz
        go_loopw [6] (fun s wr => ∃ (i : Nat), i ≤ b.length ∧ s = .int .i64 (i : Int) ∧ MkN w w.heap.size (w.heap.size + 1) X #[.slice A16 a.length c16, .slice A32 b.length c32, .int .i64 n] #[.slice none 0 0, .slice none 0 0, .int .i64 0] A c (a.map end1) A' c' (mixL end1 b i) 0 wr) (fun s _ => b.length - (intOf s).toNat)
        case atStart => exact ⟨0, Nat.zero_le _, rfl, by rw [mixL_zero]; exact HN0.out⟩
        case round =>
          clear HN0
          obtain ⟨i, hi, rfl, hN⟩ := hrel
          have x0 : wr.cell? ⟨X, 1, none⟩ = some (.slice A' b.length c') := by have := hN.bkX.cell 1; simp only [mixL_length] at this; exact this
          have hszX := hN.bkX.lt
          have hszW := hN.bel.size
          by_cases hlt : i < b.length
          · obtain ⟨g, rfl, hgl, hgT, hgZ, hgX⟩ := hN.form32 (by rw [mixL_length]; omega)
            obtain ⟨x, hx⟩ : ∃ x, b[i]? = some x := ⟨_, List.getElem?_eq_getElem hlt⟩
            have hxm := (mixL_at end1 hlt).trans hx
            obtain ⟨p0, p1, p2, pf, d1, d2, d3, d4, d5, d6⟩ := hN.at32 hxm
            obtain ⟨f1, f2⟩ := sb x (List.mem_of_getElem? hx)
            obtain ⟨e1, e2⟩ := emod_le (a := x.hi - x.lo) (b := x.st) (by omega) f1
            obtain ⟨q, hq⟩ : ∃ q, (x.hi - x.lo) % x.st = q := ⟨_, rfl⟩
            rw [hq] at e1 e2
            have hend : end1 x = ⟨x.lo, x.hi - q, x.st⟩ := by simp only [end1, hq]
            obtain ⟨s0, s1, s2⟩ := cellsL_set .u32 (x.hi - q) (mixL end1 b i) i x hxm
            have hN1 := fun W (hW : MkN w w.heap.size (w.heap.size + 1) X #[.slice A16 a.length c16, .slice A32 b.length c32, .int .i64 n] #[.slice none 0 0, .slice none 0 0, .int .i64 0] A c (a.map end1) (some ⟨g, 0, none⟩) c' (mixL end1 b i) 0 W) => hW.set32 s1 ⟨by first | omega | (simp only; omega), by first | omega | (simp only; omega), by first | omega | (simp only; omega), by first | omega | (simp only; omega), by first | omega | (simp only; omega), by first | omega | (simp only; omega)⟩
            have hms := mixL_set end1 hx
            rw [hend] at hms
            rw [hms] at hN1
            have HN1 := Lib.hid hN1; clear s0 s1 s2 hN1 hms hx hend
            have hq2 : (x.hi - x.lo).tmod x.st = q := by rw [Int.tmod_eq_emod_of_nonneg (by omega)]; exact hq
            have k1 : IntKind.u32.wrap (x.hi - x.lo) = x.hi - x.lo := IntWalk.u32_in _ (by omega)
            have k2 : IntKind.u32.wrap q = q := IntWalk.u32_in _ (by omega)
            have k3 : IntKind.u32.wrap (x.hi - q) = x.hi - q := IntWalk.u32_in _ (by omega)
            have k4 : (x.st == 0) = false := by simp; omega
            have iz0 : (0 : Int) ≤ (i : Int) := by omega
            have iz1 : (i : Int) < (b.length : Int) := by omega
            have hn5 : wr.heap.size ≠ g := by omega
            have hn5' : g ≠ wr.heap.size := by omega
            have hnX' : g ≠ X := fun h => hgX h.symm
            have hN5 := hN.alloc (.cells #[.int .u32 x.lo, .int .u32 x.hi, .int .u32 x.st] 65)
            obtain ⟨-, r1, -, rf, -⟩ := hN5.at32 hxm
            have x5 : (wr.alloc (.cells #[.int .u32 x.lo, .int .u32 x.hi, .int .u32 x.st] 65)).cell? ⟨X, 1, none⟩ = some (.slice (some ⟨g, 0, none⟩) b.length c') := by have := hN5.bkX.cell 1; simp only [mixL_length] at this; exact this
            have hB5 := Bk.new wr 65 #[.int .u32 x.lo, .int .u32 x.hi, .int .u32 x.st]
            have y0 := hB5.cell 0
            have y1 := hB5.cell 1
            have y2 := hB5.cell 2
            simp only [List.getElem?_toArray, List.getElem?_cons_zero, List.getElem?_cons_succ] at y0 y1 y2
            have HN5 := Lib.hid hN5; clear hN hN5 hB5 hxm
            have k5 : x.st ≠ 0 := by omega
            have k6 : ¬ (x.st = 0) := by omega
            go_wp2_with fail
            clear x0 p0 p1 p2 pf
            generalize hw5 : wr.alloc (.cells #[.int .u32 x.lo, .int .u32 x.hi, .int .u32 x.st] 65) = w5 at *
            clear hw5
            generalize hx5 : wr.heap.size = bx at *
            clear hx5
            go_region_held3 (fun w' => w'.cell? ⟨X, 1, none⟩ = some (.slice (some ⟨g, 0, none⟩) b.length c') ∧ w'.cell? ⟨bx, 0, none⟩ = some (.int .u32 x.lo) ∧ w'.cell? ⟨bx, 1, none⟩ = some (.int .u32 x.hi) ∧ w'.cell? ⟨bx, 2, none⟩ = some (.int .u32 x.st)) (go_keep) (fail)
            all_goals (
              clear x5 y0 y1 y2 hq hq2 k1 k2 k3 k4 k5 k6
              go_wp2
              go_roundw
              case rel => exact ⟨i + 1, by omega, by go_num, HN1.out _ HN5.out.drew⟩
              case measure => simp [intOf]; omega)
          · have hlz : ¬ ((i : Int) < (b.length : Int)) := by omega
            rw [mixL_end end1 hi hlt] at hN
            clear hi hlt
            have hM := hN.to
            have xq := x0
            clear hN x0 hszX hszW
            have hlE : (a.map end1).length = a.length := List.length_map _
            have hmE : (b.map end1).length = b.length := List.length_map _
            have HLE := Lib.hid hlE; have HME := Lib.hid hmE; clear hlE hmE
            have x0 : wr.cell? ⟨X, 0, none⟩ = some (.slice A a.length c) := by have := hM.bkX.cell 0; simp only [List.length_map] at this; exact this
            have hlt9 := latin_any A c (a.map end1) wr _ (by rw [List.length_map]; omega) hM.rd16
            rw [List.length_map] at hlt9
            have HLT := Lib.hid hlt9; clear hlt9
            go_wp2_with fail
            go_at_call 25
            refine HLT.out.mono ?_
            rintro e w9 ⟨rfl, rfl⟩
            clear HLT x0
            have x0 : wr.cell? ⟨X, 0, none⟩ = some (.slice A a.length c) := by have := hM.bkX.cell 0; simp only [List.length_map] at this; exact this
            have x1 : wr.cell? ⟨X, 1, none⟩ = some (.slice A' b.length c') := by have := hM.bkX.cell 1; simp only [List.length_map] at this; exact this
            have x2 : wr.cell? ⟨X, 2, none⟩ = some (.int .i64 0) := hM.bkX.cell 2
            have xf : ∀ i, wr.frozen? ⟨X, i, none⟩ = false := fun i => hM.bkX.frozen i
            have z0 : wr.cell? ⟨w.heap.size + 1, 0, none⟩ = some (.slice none 0 0) := hM.bkZ.cell 0
            have z1 : wr.cell? ⟨w.heap.size + 1, 1, none⟩ = some (.slice none 0 0) := hM.bkZ.cell 1
            have z2 : wr.cell? ⟨w.heap.size + 1, 2, none⟩ = some (.int .i64 0) := hM.bkZ.cell 2
            have zf : ∀ i, wr.frozen? ⟨w.heap.size + 1, i, none⟩ = false := fun i => hM.bkZ.frozen i
            have hne : w.heap.size + 1 ≠ X := hM.1.2.2.2.1
            have hne' : X ≠ w.heap.size + 1 := fun h => hne h.symm
            have HD := Lib.hid (hM.doneL (L := a.length) (M := b.length) (by first | rfl | simp) (by first | rfl | simp))
            clear hM
            go_wp2
            obtain ⟨e0, e1, e2, hD⟩ := HD.out
            refine bodyPost_ret (v := .agg #[.slice A a.length c, .slice A' b.length c', .int .i64 (latN (a.map end1))]) (by simp [results, Try.results23, go_sem, e0, e1, e2]) rfl ?_
            exact hD
end Go.Proofs.Ytnhmacmpobkdoaa
