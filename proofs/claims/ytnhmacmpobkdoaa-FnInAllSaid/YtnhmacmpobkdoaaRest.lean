/- The reference's Rest: the table of what lies between the ranges, in new memory. -/
import Derived.Test.YtnhmacmpobkdoaaMkB
import Derived.Test.YtnhmacmpobkdoaaSpec
import Derived.Deep.RegionHeld3
import Derived.Deep.RegionWith
import Derived.Deep.RegionLaw
import Derived.Deep.DrawnRows
namespace Go.Proofs.Ytnhmacmpobkdoaa
open Go.RowKit
set_option linter.unusedVariables false
attribute [local go_sem ↓] Go.wp_at_zero Go.wp_at_succ

set_option maxHeartbeats 4000000 in
set_option maxRecDepth 100000 in
theorem rest_any (A16 A32 : Option Addr) (c16 c32 : Nat) (a b : List Rg) (n : Int) (w : World) (la : a.length ≤ 40) (lb : b.length ≤ 40)
    (ra : Rd w w.heap.size .u16 65536 A16 a) (rb : Rd w w.heap.size .u32 4294967296 A32 b) :
    Calls Try.prog 29 #[.agg #[.slice A16 a.length c16, .slice A32 b.length c32, .int .i64 n]] w (Made w (gapsL 65535 0 a) (gapsL 1114111 65536 b)) := by
  obtain ⟨i0, hi0, hz0, hz1, hz2⟩ := info_parts info_r16
  obtain ⟨j0, hj0, hy0, hy1, hy2⟩ := info_parts info_r32
  have hM0 := Mk.begin w #[.slice A16 a.length c16, .slice A32 b.length c32, .int .i64 n]
  go_enter Try.func29, Try.ntmps29
  go_wp2
  generalize hX : w.heap.size + 1 + 1 + 1 + 1 = X at *
  have HX := Lib.hid hX; clear hX
  go_loopw [4, 5] (fun s4 s wr => ∃ (i : Nat) (nx : Int) (A : Option Addr) (c : Nat) (l : List Rg), i ≤ a.length ∧ s = .int .i64 (i : Int) ∧ s4 = .int .i64 nx ∧ 0 ≤ nx ∧ nx ≤ 65536 ∧ l.length ≤ i ∧ l ++ gapsL 65535 nx (a.drop i) = gapsL 65535 0 a ∧ Mk w w.heap.size (w.heap.size + 1) X #[.slice A16 a.length c16, .slice A32 b.length c32, .int .i64 n] #[.slice none 0 0, .slice none 0 0, .int .i64 0] A c l (some ⟨w.heap.size + 1 + 1 + 1, 0, none⟩) 0 [] wr) (fun _ s _ => a.length - (intOf s).toNat)
  case atStart => exact ⟨0, 0, _, _, [], Nat.zero_le _, rfl, rfl, by omega, by omega, by simp, by simp, hM0⟩
  case round =>
    clear hM0
    obtain ⟨i, nx, A, c, l, hi, rfl, rfl, hn0, hn1, hl, heq, hM⟩ := hrel
    have HE := Lib.hid heq; clear heq
    have t0 : wr.cell? ⟨w.heap.size, 0, none⟩ = some (.slice A16 a.length c16) := hM.bkT.cell 0
    have hszX := hM.bkX.lt
    have hszW := hM.bel.size
    have hszT := hM.bkT.lt
    by_cases hlt : i < a.length
    · obtain ⟨b1, o1, x, rfl, hb1, hx, c0, c1, c2, d1, d2, d3, d4, d5, d6⟩ := (ra.below hM.bel).at_ hlt
      have Hx := Lib.hid hx; clear hx
      have iz0 : (0 : Int) ≤ (i : Int) := by omega
      have iz1 : (i : Int) < (a.length : Int) := by omega
      by_cases hg : nx < x.lo
      · have x0 : wr.cell? ⟨X, 0, none⟩ = some (.slice A l.length c) := hM.bkX.cell 0
        have q2 : ∀ o1, (wr.alloc o1).cell? ⟨X, 0, none⟩ = some (.slice A l.length c) := fun o1 => (hM.alloc o1).bkX.cell 0
        have hown := hM.own16
        have HM := Lib.hid hM; clear hM
        have kw : IntKind.u16.wrap nx = nx := IntWalk.u16_in _ (by omega)
        have kw2 : IntKind.u16.wrap (x.lo - 1) = x.lo - 1 := IntWalk.u16_in _ (by omega)
        go_wp2_with fail
        go_region_law ((refine step_append_all _ (by rfl) _ _ _ (by rfl) w.heap.size 39 i0 _ 3 6 Try.underlying24 hi0 hz0 hz1 hz2 rfl (by omega) (.slice A l.length c) l.length (cellsL .u16 l) (by rfl) ((hown.alloc _).drew) (some ⟨wr.heap.size, 0, none⟩) 1 1 [.int .u16 nx, .int .u16 (x.lo - 1), .int .u16 1] (by rfl) rfl (fun h => by cases h) (news_one (cs := #[.int .u16 nx, .int .u16 (x.lo - 1), .int .u16 1]) (t := 39) (heap_alloc_new wr _)) (by simp [Value.oneCell']) (by unfold maxLen; omega) (by omega) (by simp; omega) ?_; intro A2 cap w1 hown1 hgrow hat; obtain ⟨e0, e1, hM1⟩ := Mk.push16 (x := ⟨nx, x.lo - 1, 1⟩) ((HM.out.alloc (.cells #[.int .u16 nx, .int .u16 (x.lo - 1), .int .u16 1] 39)).drew) rfl ⟨by first | omega | (simp only; omega), by first | omega | (simp only; omega), by first | omega | (simp only; omega), by first | omega | (simp only; omega), by first | omega | (simp only; omega), by first | omega | (simp only; omega)⟩ hown1 hgrow; have HM1 := Lib.hid hM1; clear hM1))
        all_goals (
          have hfin := gap_yes HE.out hlt Hx.out hg
          have HF := Lib.hid hfin; clear hfin
          have k0 := (HM1.out.bkT).cell 0
          simp only [List.getElem?_toArray, List.getElem?_cons_zero] at k0
          have k1 := ((ra.below HM1.out.bel).at_ hlt)
          obtain ⟨b9, o9, x9, hA9, -, hx9, -, k9, -⟩ := k1
          injection hA9 with hA9
          injection hA9 with e91 e92
          subst e91 e92
          rw [Hx.out] at hx9
          subst hx9
          go_wp2
          go_roundw
          case rel => exact ⟨i + 1, x.hi + 1, A2, cap, l ++ [⟨nx, x.lo - 1, 1⟩], by omega, by go_num, rfl, by omega, by omega, by simp; omega, HF.out, HM1.out⟩
          case measure => simp [intOf]; omega)
      · have hfin := gap_no HE.out hlt Hx.out hg
        have HF := Lib.hid hfin; clear hfin
        have HM := Lib.hid hM; clear hM
        go_wp2
        go_roundw
        case rel => exact ⟨i + 1, x.hi + 1, A, c, l, by omega, by go_num, rfl, by omega, by omega, by omega, HF.out, HM.out⟩
        case measure => simp [intOf]; omega
    · have hlz : ¬ ((i : Int) < (a.length : Int)) := by omega
      obtain ⟨q1, q2⟩ := gap_end HE.out hi hlt
      have Q1 := Lib.hid q1; have Q2 := Lib.hid q2; clear q1 q2 HE
      by_cases hn : nx ≤ 65535
      · have hq := Q1.out hn
        have HQL := Lib.hid hq; clear hq Q1 Q2
        have x0 : wr.cell? ⟨X, 0, none⟩ = some (.slice A l.length c) := hM.bkX.cell 0
        have hown := hM.own16
        have HM := Lib.hid hM; clear hM
        go_wp2_with (first
          | (at_builtin; refine wpList_append_all _ rfl _ _ _ rfl w.heap.size 39 i0 _ 3 6 Try.underlying24 hi0 hz0 hz1 hz2 rfl (by omega) (.slice A l.length c) l.length (cellsL .u16 l) rfl (hown.alloc _) (some ⟨wr.heap.size, 0, none⟩) 1 1 [.int .u16 nx, .int .u16 65535, .int .u16 1] rfl rfl (fun h => by cases h) (news_one (cs := #[.int .u16 nx, .int .u16 65535, .int .u16 1]) (t := 39) (heap_alloc_new wr _)) (by simp [Value.oneCell']) (by unfold maxLen; omega) (by omega) (by simp; omega) ?_; intro A5 c5 w5 hown1 hgrow hat; obtain ⟨e0, e1, hM1⟩ := Mk.push16 (x := ⟨nx, 65535, 1⟩) (HM.out.alloc (.cells #[.int .u16 nx, .int .u16 65535, .int .u16 1] 39)) rfl ⟨by first | omega | (simp only; omega), by first | omega | (simp only; omega), by first | omega | (simp only; omega), by first | omega | (simp only; omega), by first | omega | (simp only; omega), by first | omega | (simp only; omega)⟩ hown1 hgrow; have k0 := hM1.bkT.cell 1; have HM1 := Lib.hid hM1; clear hM1)
          | (go_at_call 25; fail))
        have hl2 : (l ++ [(⟨nx, 65535, 1⟩ : Rg)]).length = l.length + 1 := by simp
        have hM := HM1.out
        clear HM HM1 hown hown1 hgrow hat e0 e1 k0 x0
        generalize hl3 : l ++ [(⟨nx, 65535, 1⟩ : Rg)] = l2 at *
        generalize w5.setCell ⟨X, 0, none⟩ (.slice A5 (l.length + 1) c5) = wz at *
        have HE5 := HQL; clear hl3 HQL
        have hll : l2.length ≤ 50 := by omega
        clear hl2 hl hn
        have HM0 := Lib.hid hM; clear hM
        clear hszX hszW hszT hlz hlt hi hn0 hn1 t0
        go_loopw [4, 6] (fun s4 s wr => ∃ (i : Nat) (nx : Int) (A' : Option Addr) (c' : Nat) (m : List Rg), i ≤ b.length ∧ s = .int .i64 (i : Int) ∧ s4 = .int .i64 nx ∧ 0 ≤ nx ∧ nx ≤ 4294967296 ∧ m.length ≤ i ∧ m ++ gapsL 1114111 nx (b.drop i) = gapsL 1114111 65536 b ∧ Mk w w.heap.size (w.heap.size + 1) X #[.slice A16 a.length c16, .slice A32 b.length c32, .int .i64 n] #[.slice none 0 0, .slice none 0 0, .int .i64 0] A5 c5 l2 A' c' m wr) (fun _ s _ => b.length - (intOf s).toNat)
        case atStart => exact ⟨0, 65536, _, _, [], Nat.zero_le _, rfl, rfl, by omega, by omega, by simp, by simp, HM0.out⟩
        case round =>
          skip
          obtain ⟨i, nx, A', c', m, hi, rfl, rfl, hn0, hn1, hm, heq, hM⟩ := hrel
          have HE := Lib.hid heq; clear heq
          have t0 : wr.cell? ⟨w.heap.size, 1, none⟩ = some (.slice A32 b.length c32) := hM.bkT.cell 1
          have hszX := hM.bkX.lt
          have hszW := hM.bel.size
          have hszT := hM.bkT.lt
          by_cases hlt : i < b.length
          · obtain ⟨b1, o1, x, rfl, hb1, hx, c0, c1, c2, d1, d2, d3, d4, d5, d6⟩ := (rb.below hM.bel).at_ hlt
            have Hx := Lib.hid hx; clear hx
            have iz0 : (0 : Int) ≤ (i : Int) := by omega
            have iz1 : (i : Int) < (b.length : Int) := by omega
            by_cases hg : nx < x.lo
            · have x0 : wr.cell? ⟨X, 1, none⟩ = some (.slice A' m.length c') := hM.bkX.cell 1
              have q2 : ∀ o1, (wr.alloc o1).cell? ⟨X, 1, none⟩ = some (.slice A' m.length c') := fun o1 => (hM.alloc o1).bkX.cell 1
              have hown := hM.own32
              have HM := Lib.hid hM; clear hM
              have kw : IntKind.u32.wrap nx = nx := IntWalk.u32_in _ (by omega)
              have kw2 : IntKind.u32.wrap (x.lo - 1) = x.lo - 1 := IntWalk.u32_in _ (by omega)
              go_wp2_with fail
              go_region_law ((refine step_append_all _ (by rfl) _ _ _ (by rfl) w.heap.size 65 j0 _ 3 12 Try.underlying25 hj0 hy0 hy1 hy2 rfl (by omega) (.slice A' m.length c') m.length (cellsL .u32 m) (by rfl) ((hown.alloc _).drew) (some ⟨wr.heap.size, 0, none⟩) 1 1 [.int .u32 nx, .int .u32 (x.lo - 1), .int .u32 1] (by rfl) rfl (fun h => by cases h) (news_one (cs := #[.int .u32 nx, .int .u32 (x.lo - 1), .int .u32 1]) (t := 65) (heap_alloc_new wr _)) (by simp [Value.oneCell']) (by unfold maxLen; omega) (by omega) (by simp; omega) ?_; intro A2 cap w1 hown1 hgrow hat; obtain ⟨e0, e1, hM1⟩ := Mk.push32 (x := ⟨nx, x.lo - 1, 1⟩) ((HM.out.alloc (.cells #[.int .u32 nx, .int .u32 (x.lo - 1), .int .u32 1] 65)).drew) rfl ⟨by first | omega | (simp only; omega), by first | omega | (simp only; omega), by first | omega | (simp only; omega), by first | omega | (simp only; omega), by first | omega | (simp only; omega), by first | omega | (simp only; omega)⟩ hown1 hgrow; have HM1 := Lib.hid hM1; clear hM1))
              all_goals (
                have hfin := gap_yes HE.out hlt Hx.out hg
                have HF := Lib.hid hfin; clear hfin
                have k0 := (HM1.out.bkT).cell 1
                simp only [List.getElem?_toArray, List.getElem?_cons_zero, List.getElem?_cons_succ] at k0
                have k1 := ((rb.below HM1.out.bel).at_ hlt)
                obtain ⟨b9, o9, x9, hA9, -, hx9, -, k9, -⟩ := k1
                injection hA9 with hA9
                injection hA9 with e91 e92
                subst e91 e92
                rw [Hx.out] at hx9
                subst hx9
                go_wp2
                go_roundw
                case rel => exact ⟨i + 1, x.hi + 1, A2, cap, m ++ [⟨nx, x.lo - 1, 1⟩], by omega, by go_num, rfl, by omega, by omega, by simp; omega, HF.out, HM1.out⟩
                case measure => simp [intOf]; omega)
            · have hfin := gap_no HE.out hlt Hx.out hg
              have HF := Lib.hid hfin; clear hfin
              have HM := Lib.hid hM; clear hM
              go_wp2
              go_roundw
              case rel => exact ⟨i + 1, x.hi + 1, A', c', m, by omega, by go_num, rfl, by omega, by omega, by omega, HF.out, HM.out⟩
              case measure => simp [intOf]; omega
          · have hlz : ¬ ((i : Int) < (b.length : Int)) := by omega
            obtain ⟨q1, q2⟩ := gap_end HE.out hi hlt
            have Q1 := Lib.hid q1; have Q2 := Lib.hid q2; clear q1 q2 HE
            clear HM0
            by_cases hn : nx ≤ 1114111
            · have hq := Q1.out hn
              have HQ := Lib.hid hq; clear hq Q1 Q2
              have x0 : wr.cell? ⟨X, 1, none⟩ = some (.slice A' m.length c') := hM.bkX.cell 1
              have hown := hM.own32
              have HM := Lib.hid hM; clear hM
              go_wp2_with (first
                | (at_builtin; refine wpList_append_all _ rfl _ _ _ rfl w.heap.size 65 j0 _ 3 12 Try.underlying25 hj0 hy0 hy1 hy2 rfl (by omega) (.slice A' m.length c') m.length (cellsL .u32 m) rfl (hown.alloc _) (some ⟨wr.heap.size, 0, none⟩) 1 1 [.int .u32 nx, .int .u32 1114111, .int .u32 1] rfl rfl (fun h => by cases h) (news_one (cs := #[.int .u32 nx, .int .u32 1114111, .int .u32 1]) (t := 65) (heap_alloc_new wr _)) (by simp [Value.oneCell']) (by unfold maxLen; omega) (by omega) (by simp; omega) ?_; intro A2 cap w1 hown1 hgrow hat; obtain ⟨e0, e1, hM1⟩ := Mk.push32 (x := ⟨nx, 1114111, 1⟩) (HM.out.alloc (.cells #[.int .u32 nx, .int .u32 1114111, .int .u32 1] 65)) rfl ⟨by first | omega | (simp only; omega), by first | omega | (simp only; omega), by first | omega | (simp only; omega), by first | omega | (simp only; omega), by first | omega | (simp only; omega), by first | omega | (simp only; omega)⟩ hown1 hgrow; have k0 : w1.cell? ⟨X, 0, none⟩ = some (.slice A5 l2.length c5) := (by have := hM1.bkX.cell 0; rw [World.cell?_setCell_other _ _ _ _ (fun h => by injection h with _ h; omega)] at this; exact this); have HM1 := Lib.hid hM1; clear hM1)
                | (go_at_call 25; fail))
              have hl2 : (m ++ [(⟨nx, 1114111, 1⟩ : Rg)]).length = m.length + 1 := by simp
              have hM := HM1.out
              clear HM HM1 hown hown1 hgrow hat e0 e1 k0 x0
              generalize hl3 : m ++ [(⟨nx, 1114111, 1⟩ : Rg)] = m2 at *
              generalize w1.setCell ⟨X, 1, none⟩ (.slice A2 (m.length + 1) cap) = wz at *
              clear hl3
              have hmm : m2.length ≤ 50 := by omega
              rw [← hl2]
              clear hl2
              have x0 : wz.cell? ⟨X, 0, none⟩ = some (.slice A5 l2.length c5) := hM.bkX.cell 0
              have HLT := Lib.hid (latin_any A5 c5 l2 wz _ (by omega) hM.rd16)
              go_wp2_with fail
              go_at_call 25
              refine HLT.out.mono ?_
              rintro e w9 ⟨rfl, rfl⟩
              clear HLT x0
              have x0 : wz.cell? ⟨X, 0, none⟩ = some (.slice A5 l2.length c5) := hM.bkX.cell 0
              have x1 : wz.cell? ⟨X, 1, none⟩ = some (.slice A2 m2.length cap) := hM.bkX.cell 1
              have x2 : wz.cell? ⟨X, 2, none⟩ = some (.int .i64 0) := hM.bkX.cell 2
              have xf : ∀ i, wz.frozen? ⟨X, i, none⟩ = false := fun i => hM.bkX.frozen i
              have z0 : wz.cell? ⟨w.heap.size + 1, 0, none⟩ = some (.slice none 0 0) := hM.bkZ.cell 0
              have z1 : wz.cell? ⟨w.heap.size + 1, 1, none⟩ = some (.slice none 0 0) := hM.bkZ.cell 1
              have z2 : wz.cell? ⟨w.heap.size + 1, 2, none⟩ = some (.int .i64 0) := hM.bkZ.cell 2
              have zf : ∀ i, wz.frozen? ⟨w.heap.size + 1, i, none⟩ = false := fun i => hM.bkZ.frozen i
              have hne : w.heap.size + 1 ≠ X := hM.1.2.2.2.1
              have hne' : X ≠ w.heap.size + 1 := fun h => hne h.symm
              have HD := Lib.hid hM.done
              clear hM
              go_wp2
              obtain ⟨e0, e1, e2, hD⟩ := HD.out
              refine bodyPost_ret (v := .agg #[.slice A5 l2.length c5, .slice A2 m2.length cap, .int .i64 (latN l2)]) (by simp [results, Try.results29, go_sem, e0, e1, e2]) rfl ?_
              obtain rfl := HE5.out
              obtain rfl := HQ.out
              exact hD
            · have hq := Q2.out hn
              have HQ := Lib.hid hq; clear hq Q1 Q2
              have x0 : wr.cell? ⟨X, 0, none⟩ = some (.slice A5 l2.length c5) := hM.bkX.cell 0
              have HLT := Lib.hid (latin_any A5 c5 l2 wr _ (by omega) hM.rd16)
              go_wp2_with fail
              go_at_call 25
              refine HLT.out.mono ?_
              rintro e w9 ⟨rfl, rfl⟩
              clear HLT x0
              have x0 : wr.cell? ⟨X, 0, none⟩ = some (.slice A5 l2.length c5) := hM.bkX.cell 0
              have x1 : wr.cell? ⟨X, 1, none⟩ = some (.slice A' m.length c') := hM.bkX.cell 1
              have x2 : wr.cell? ⟨X, 2, none⟩ = some (.int .i64 0) := hM.bkX.cell 2
              have xf : ∀ i, wr.frozen? ⟨X, i, none⟩ = false := fun i => hM.bkX.frozen i
              have z0 : wr.cell? ⟨w.heap.size + 1, 0, none⟩ = some (.slice none 0 0) := hM.bkZ.cell 0
              have z1 : wr.cell? ⟨w.heap.size + 1, 1, none⟩ = some (.slice none 0 0) := hM.bkZ.cell 1
              have z2 : wr.cell? ⟨w.heap.size + 1, 2, none⟩ = some (.int .i64 0) := hM.bkZ.cell 2
              have zf : ∀ i, wr.frozen? ⟨w.heap.size + 1, i, none⟩ = false := fun i => hM.bkZ.frozen i
              have hne : w.heap.size + 1 ≠ X := hM.1.2.2.2.1
              have hne' : X ≠ w.heap.size + 1 := fun h => hne h.symm
              have HD := Lib.hid hM.done
              clear hM
              go_wp2
              obtain ⟨e0, e1, e2, hD⟩ := HD.out
              refine bodyPost_ret (v := .agg #[.slice A5 l2.length c5, .slice A' m.length c', .int .i64 (latN l2)]) (by simp [results, Try.results29, go_sem, e0, e1, e2]) rfl ?_
              obtain rfl := HE5.out
              obtain rfl := HQ.out
              exact hD
      · have hq := Q2.out hn
        have HE5 := Lib.hid hq; clear hq Q1 Q2
        have hll : l.length ≤ 50 := by omega
        clear hl
        have HMz := Lib.hid hM; clear hM
        go_wp2
        have hM := HMz.out; clear HMz hn
        have HM0 := Lib.hid hM; clear hM
        clear hszX hszW hszT hlz hlt hi hn0 hn1 t0
        go_loopw [4, 6] (fun s4 s wr => ∃ (i : Nat) (nx : Int) (A' : Option Addr) (c' : Nat) (m : List Rg), i ≤ b.length ∧ s = .int .i64 (i : Int) ∧ s4 = .int .i64 nx ∧ 0 ≤ nx ∧ nx ≤ 4294967296 ∧ m.length ≤ i ∧ m ++ gapsL 1114111 nx (b.drop i) = gapsL 1114111 65536 b ∧ Mk w w.heap.size (w.heap.size + 1) X #[.slice A16 a.length c16, .slice A32 b.length c32, .int .i64 n] #[.slice none 0 0, .slice none 0 0, .int .i64 0] A c l A' c' m wr) (fun _ s _ => b.length - (intOf s).toNat)
        case atStart => exact ⟨0, 65536, _, _, [], Nat.zero_le _, rfl, rfl, by omega, by omega, by simp, by simp, HM0.out⟩
        case round =>
          skip
          obtain ⟨i, nx, A', c', m, hi, rfl, rfl, hn0, hn1, hm, heq, hM⟩ := hrel
          have HE := Lib.hid heq; clear heq
          have t0 : wr.cell? ⟨w.heap.size, 1, none⟩ = some (.slice A32 b.length c32) := hM.bkT.cell 1
          have hszX := hM.bkX.lt
          have hszW := hM.bel.size
          have hszT := hM.bkT.lt
          by_cases hlt : i < b.length
          · obtain ⟨b1, o1, x, rfl, hb1, hx, c0, c1, c2, d1, d2, d3, d4, d5, d6⟩ := (rb.below hM.bel).at_ hlt
            have Hx := Lib.hid hx; clear hx
            have iz0 : (0 : Int) ≤ (i : Int) := by omega
            have iz1 : (i : Int) < (b.length : Int) := by omega
            by_cases hg : nx < x.lo
            · have x0 : wr.cell? ⟨X, 1, none⟩ = some (.slice A' m.length c') := hM.bkX.cell 1
              have q2 : ∀ o1, (wr.alloc o1).cell? ⟨X, 1, none⟩ = some (.slice A' m.length c') := fun o1 => (hM.alloc o1).bkX.cell 1
              have hown := hM.own32
              have HM := Lib.hid hM; clear hM
              have kw : IntKind.u32.wrap nx = nx := IntWalk.u32_in _ (by omega)
              have kw2 : IntKind.u32.wrap (x.lo - 1) = x.lo - 1 := IntWalk.u32_in _ (by omega)
              go_wp2_with fail
              go_region_law ((refine step_append_all _ (by rfl) _ _ _ (by rfl) w.heap.size 65 j0 _ 3 12 Try.underlying25 hj0 hy0 hy1 hy2 rfl (by omega) (.slice A' m.length c') m.length (cellsL .u32 m) (by rfl) ((hown.alloc _).drew) (some ⟨wr.heap.size, 0, none⟩) 1 1 [.int .u32 nx, .int .u32 (x.lo - 1), .int .u32 1] (by rfl) rfl (fun h => by cases h) (news_one (cs := #[.int .u32 nx, .int .u32 (x.lo - 1), .int .u32 1]) (t := 65) (heap_alloc_new wr _)) (by simp [Value.oneCell']) (by unfold maxLen; omega) (by omega) (by simp; omega) ?_; intro A2 cap w1 hown1 hgrow hat; obtain ⟨e0, e1, hM1⟩ := Mk.push32 (x := ⟨nx, x.lo - 1, 1⟩) ((HM.out.alloc (.cells #[.int .u32 nx, .int .u32 (x.lo - 1), .int .u32 1] 65)).drew) rfl ⟨by first | omega | (simp only; omega), by first | omega | (simp only; omega), by first | omega | (simp only; omega), by first | omega | (simp only; omega), by first | omega | (simp only; omega), by first | omega | (simp only; omega)⟩ hown1 hgrow; have HM1 := Lib.hid hM1; clear hM1))
              all_goals (
                have hfin := gap_yes HE.out hlt Hx.out hg
                have HF := Lib.hid hfin; clear hfin
                have k0 := (HM1.out.bkT).cell 1
                simp only [List.getElem?_toArray, List.getElem?_cons_zero, List.getElem?_cons_succ] at k0
                have k1 := ((rb.below HM1.out.bel).at_ hlt)
                obtain ⟨b9, o9, x9, hA9, -, hx9, -, k9, -⟩ := k1
                injection hA9 with hA9
                injection hA9 with e91 e92
                subst e91 e92
                rw [Hx.out] at hx9
                subst hx9
                go_wp2
                go_roundw
                case rel => exact ⟨i + 1, x.hi + 1, A2, cap, m ++ [⟨nx, x.lo - 1, 1⟩], by omega, by go_num, rfl, by omega, by omega, by simp; omega, HF.out, HM1.out⟩
                case measure => simp [intOf]; omega)
            · have hfin := gap_no HE.out hlt Hx.out hg
              have HF := Lib.hid hfin; clear hfin
              have HM := Lib.hid hM; clear hM
              go_wp2
              go_roundw
              case rel => exact ⟨i + 1, x.hi + 1, A', c', m, by omega, by go_num, rfl, by omega, by omega, by omega, HF.out, HM.out⟩
              case measure => simp [intOf]; omega
          · have hlz : ¬ ((i : Int) < (b.length : Int)) := by omega
            obtain ⟨q1, q2⟩ := gap_end HE.out hi hlt
            have Q1 := Lib.hid q1; have Q2 := Lib.hid q2; clear q1 q2 HE
            clear HM0
            by_cases hn : nx ≤ 1114111
            · have hq := Q1.out hn
              have HQ := Lib.hid hq; clear hq Q1 Q2
              have x0 : wr.cell? ⟨X, 1, none⟩ = some (.slice A' m.length c') := hM.bkX.cell 1
              have hown := hM.own32
              have HM := Lib.hid hM; clear hM
              go_wp2_with (first
                | (at_builtin; refine wpList_append_all _ rfl _ _ _ rfl w.heap.size 65 j0 _ 3 12 Try.underlying25 hj0 hy0 hy1 hy2 rfl (by omega) (.slice A' m.length c') m.length (cellsL .u32 m) rfl (hown.alloc _) (some ⟨wr.heap.size, 0, none⟩) 1 1 [.int .u32 nx, .int .u32 1114111, .int .u32 1] rfl rfl (fun h => by cases h) (news_one (cs := #[.int .u32 nx, .int .u32 1114111, .int .u32 1]) (t := 65) (heap_alloc_new wr _)) (by simp [Value.oneCell']) (by unfold maxLen; omega) (by omega) (by simp; omega) ?_; intro A2 cap w1 hown1 hgrow hat; obtain ⟨e0, e1, hM1⟩ := Mk.push32 (x := ⟨nx, 1114111, 1⟩) (HM.out.alloc (.cells #[.int .u32 nx, .int .u32 1114111, .int .u32 1] 65)) rfl ⟨by first | omega | (simp only; omega), by first | omega | (simp only; omega), by first | omega | (simp only; omega), by first | omega | (simp only; omega), by first | omega | (simp only; omega), by first | omega | (simp only; omega)⟩ hown1 hgrow; have k0 : w1.cell? ⟨X, 0, none⟩ = some (.slice A l.length c) := (by have := hM1.bkX.cell 0; rw [World.cell?_setCell_other _ _ _ _ (fun h => by injection h with _ h; omega)] at this; exact this); have HM1 := Lib.hid hM1; clear hM1)
                | (go_at_call 25; fail))
              have hl2 : (m ++ [(⟨nx, 1114111, 1⟩ : Rg)]).length = m.length + 1 := by simp
              have hM := HM1.out
              clear HM HM1 hown hown1 hgrow hat e0 e1 k0 x0
              generalize hl3 : m ++ [(⟨nx, 1114111, 1⟩ : Rg)] = m2 at *
              generalize w1.setCell ⟨X, 1, none⟩ (.slice A2 (m.length + 1) cap) = wz at *
              clear hl3
              have hmm : m2.length ≤ 50 := by omega
              rw [← hl2]
              clear hl2
              have x0 : wz.cell? ⟨X, 0, none⟩ = some (.slice A l.length c) := hM.bkX.cell 0
              have HLT := Lib.hid (latin_any A c l wz _ (by omega) hM.rd16)
              go_wp2_with fail
              go_at_call 25
              refine HLT.out.mono ?_
              rintro e w9 ⟨rfl, rfl⟩
              clear HLT x0
              have x0 : wz.cell? ⟨X, 0, none⟩ = some (.slice A l.length c) := hM.bkX.cell 0
              have x1 : wz.cell? ⟨X, 1, none⟩ = some (.slice A2 m2.length cap) := hM.bkX.cell 1
              have x2 : wz.cell? ⟨X, 2, none⟩ = some (.int .i64 0) := hM.bkX.cell 2
              have xf : ∀ i, wz.frozen? ⟨X, i, none⟩ = false := fun i => hM.bkX.frozen i
              have z0 : wz.cell? ⟨w.heap.size + 1, 0, none⟩ = some (.slice none 0 0) := hM.bkZ.cell 0
              have z1 : wz.cell? ⟨w.heap.size + 1, 1, none⟩ = some (.slice none 0 0) := hM.bkZ.cell 1
              have z2 : wz.cell? ⟨w.heap.size + 1, 2, none⟩ = some (.int .i64 0) := hM.bkZ.cell 2
              have zf : ∀ i, wz.frozen? ⟨w.heap.size + 1, i, none⟩ = false := fun i => hM.bkZ.frozen i
              have hne : w.heap.size + 1 ≠ X := hM.1.2.2.2.1
              have hne' : X ≠ w.heap.size + 1 := fun h => hne h.symm
              have HD := Lib.hid hM.done
              clear hM
              go_wp2
              obtain ⟨e0, e1, e2, hD⟩ := HD.out
              refine bodyPost_ret (v := .agg #[.slice A l.length c, .slice A2 m2.length cap, .int .i64 (latN l)]) (by simp [results, Try.results29, go_sem, e0, e1, e2]) rfl ?_
              obtain rfl := HE5.out
              obtain rfl := HQ.out
              exact hD
            · have hq := Q2.out hn
              have HQ := Lib.hid hq; clear hq Q1 Q2
              have x0 : wr.cell? ⟨X, 0, none⟩ = some (.slice A l.length c) := hM.bkX.cell 0
              have HLT := Lib.hid (latin_any A c l wr _ (by omega) hM.rd16)
              go_wp2_with fail
              go_at_call 25
              refine HLT.out.mono ?_
              rintro e w9 ⟨rfl, rfl⟩
              clear HLT x0
              have x0 : wr.cell? ⟨X, 0, none⟩ = some (.slice A l.length c) := hM.bkX.cell 0
              have x1 : wr.cell? ⟨X, 1, none⟩ = some (.slice A' m.length c') := hM.bkX.cell 1
              have x2 : wr.cell? ⟨X, 2, none⟩ = some (.int .i64 0) := hM.bkX.cell 2
              have xf : ∀ i, wr.frozen? ⟨X, i, none⟩ = false := fun i => hM.bkX.frozen i
              have z0 : wr.cell? ⟨w.heap.size + 1, 0, none⟩ = some (.slice none 0 0) := hM.bkZ.cell 0
              have z1 : wr.cell? ⟨w.heap.size + 1, 1, none⟩ = some (.slice none 0 0) := hM.bkZ.cell 1
              have z2 : wr.cell? ⟨w.heap.size + 1, 2, none⟩ = some (.int .i64 0) := hM.bkZ.cell 2
              have zf : ∀ i, wr.frozen? ⟨w.heap.size + 1, i, none⟩ = false := fun i => hM.bkZ.frozen i
              have hne : w.heap.size + 1 ≠ X := hM.1.2.2.2.1
              have hne' : X ≠ w.heap.size + 1 := fun h => hne h.symm
              have HD := Lib.hid hM.done
              clear hM
              go_wp2
              obtain ⟨e0, e1, e2, hD⟩ := HD.out
              refine bodyPost_ret (v := .agg #[.slice A l.length c, .slice A' m.length c', .int .i64 (latN l)]) (by simp [results, Try.results29, go_sem, e0, e1, e2]) rfl ?_
              obtain rfl := HE5.out
              obtain rfl := HQ.out
              exact hD
end Go.Proofs.Ytnhmacmpobkdoaa
