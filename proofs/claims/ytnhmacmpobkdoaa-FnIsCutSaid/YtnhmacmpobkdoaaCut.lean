/- The reference's Cut: a table whose ranges are cut in two, in new memory. -/
import Derived.Test.YtnhmacmpobkdoaaMk
import Derived.Test.YtnhmacmpobkdoaaSpec
import Derived.Deep.RegionHeld3
import Derived.Deep.RegionWith
import Derived.Deep.RegionLaw
import Derived.Deep.DrawnRows
namespace Go.Proofs.Ytnhmacmpobkdoaa
open Go.RowKit
set_option linter.unusedVariables false
attribute [local go_sem ↓] Go.wp_at_zero Go.wp_at_succ

set_option maxHeartbeats 4000000 in
set_option maxRecDepth 100000 in
theorem cut_any (A16 A32 : Option Addr) (c16 c32 : Nat) (a b : List Rg) (n : Int) (w : World) (la : a.length ≤ 40) (lb : b.length ≤ 40)
    (ra : Rd w w.heap.size .u16 65536 A16 a) (rb : Rd w w.heap.size .u32 4294967296 A32 b) :
    Calls Try.prog 21 #[.agg #[.slice A16 a.length c16, .slice A32 b.length c32, .int .i64 n]] w (Made w (cutL a) (cutL b)) := by
  obtain ⟨i0, hi0, hz0, hz1, hz2⟩ := info_parts info_r16
  obtain ⟨j0, hj0, hy0, hy1, hy2⟩ := info_parts info_r32
  have hM0 := Mk.begin w #[.slice A16 a.length c16, .slice A32 b.length c32, .int .i64 n]
  go_enter Try.func21, Try.ntmps21
  go_wp2
  generalize hX : w.heap.size + 1 + 1 + 1 + 1 = X at *
  have HX := Lib.hid hX; clear hX
  go_loopw [4] (fun s wr => ∃ (i : Nat) (A : Option Addr) (c : Nat) (l : List Rg), i ≤ a.length ∧ s = .int .i64 (i : Int) ∧ l.length ≤ 2 * i ∧ l ++ cutL (a.drop i) = cutL a ∧ Mk w w.heap.size (w.heap.size + 1) X #[.slice A16 a.length c16, .slice A32 b.length c32, .int .i64 n] #[.slice none 0 0, .slice none 0 0, .int .i64 0] A c l (some ⟨w.heap.size + 1 + 1 + 1, 0, none⟩) 0 [] wr) (fun s _ => a.length - (intOf s).toNat)
  case atStart => exact ⟨0, _, _, [], Nat.zero_le _, rfl, by simp, by simp, hM0⟩
  case round =>
    clear hM0
    obtain ⟨i, A, c, l, hi, rfl, hl, heq, hM⟩ := hrel
    have HEQ := Lib.hid heq; clear heq
    have t0 : wr.cell? ⟨w.heap.size, 0, none⟩ = some (.slice A16 a.length c16) := hM.bkT.cell 0
    have hszX := hM.bkX.lt
    have hszT := hM.bkT.lt
    have hszZ := hM.bkZ.lt
    have hszW := hM.bel.size
    by_cases hlt : i < a.length
    · obtain ⟨b1, o1, x, rfl, hb1, hx, c0, c1, c2, d1, d2, d3, d4, d5, d6⟩ := (ra.below hM.bel).at_ hlt
      have Hx := Lib.hid hx; clear hx
      have x0 : wr.cell? ⟨X, 0, none⟩ = some (.slice A l.length c) := hM.bkX.cell 0
      have hneX : X ≠ wr.heap.size := by omega
      have hneX' : wr.heap.size ≠ X := by omega
      have hown := hM.own16
      have HM := Lib.hid hM; clear hM
      by_cases hc : x.lo + x.st ≤ x.hi
      · go_wp2_with (at_builtin; first
        | (refine wpList_append_all _ rfl _ _ _ rfl w.heap.size 39 i0 _ 3 6 Try.underlying24 hi0 hz0 hz1 hz2 rfl (by omega) (.slice A l.length c) l.length (cellsL .u16 l) rfl ((hown.alloc _).alloc _) (some ⟨wr.heap.size + 1, 0, none⟩) 1 1 [.int .u16 x.lo, .int .u16 x.lo, .int .u16 x.st] rfl rfl (fun h => by cases h) (news_one (cs := #[.int .u16 x.lo, .int .u16 x.lo, .int .u16 x.st]) (t := 39) (heap_new2 wr _ _)) (by simp [Value.oneCell']) (by unfold maxLen; omega) (by omega) (by simp; omega) ?_; intro A2 cap w1 hown1 hgrow hat; obtain ⟨e0, e1, hM1⟩ := Mk.push16 (x := ⟨x.lo, x.lo, x.st⟩) ((HM.out.alloc (.cells #[.int .u16 x.lo, .int .u16 x.hi, .int .u16 x.st] 39)).alloc (.cells #[.int .u16 x.lo, .int .u16 x.lo, .int .u16 x.st] 39)) rfl ⟨by first | omega | (simp only; omega), by first | omega | (simp only; omega), by first | omega | (simp only; omega), by first | omega | (simp only; omega), by first | omega | (simp only; omega), by first | omega | (simp only; omega)⟩ hown1 hgrow; have HM1 := Lib.hid hM1; clear hM1; have HB5 := Lib.hid (Bk.grown ((Bk.new wr 39 #[.int .u16 x.lo, .int .u16 x.hi, .int .u16 x.st]).alloc (.cells #[.int .u16 x.lo, .int .u16 x.lo, .int .u16 x.st] 39)) hgrow (own_new hown)); have p0 := HB5.out.cell 0; have p1 := HB5.out.cell 1; have p2 := HB5.out.cell 2; have pf := HB5.out.frozen; simp only [List.getElem?_toArray, List.getElem?_cons_zero, List.getElem?_cons_succ] at p0 p1 p2; have HM2 := Lib.hid (HM1.out.only (R := wr.heap.size) (w1 := ((w1.setCell ⟨X, 0, none⟩ (.slice A2 (l.length + 1) cap)).setCell ⟨wr.heap.size, 0, none⟩ (.int .u16 (x.lo + x.st)))) (by omega) (by omega) (by omega) (own_meanwhile hown hat (by simp only [World.size_alloc]; omega)) (own_new HM.out.own32) hszW ((Only.refl _ _).store 0 _)); have hown2 := own_len (k' := l.length + 1) HM2.out.own16 (by simp); have hsz1 : w.heap.size ≤ w1.heap.size := by have := HM1.out.bel.size; simpa using this)
        | (refine wpList_append_all _ rfl _ _ _ rfl w.heap.size 39 i0 _ 3 6 Try.underlying24 hi0 hz0 hz1 hz2 rfl (by omega) (.slice A2 (l.length + 1) cap) (l.length + 1) (cellsL .u16 (l ++ [⟨x.lo, x.lo, x.st⟩])) rfl (hown2.alloc _) (some ⟨w1.heap.size, 0, none⟩) 1 1 [.int .u16 (x.lo + x.st), .int .u16 x.hi, .int .u16 x.st] rfl rfl (fun h => by cases h) (news_one (cs := #[.int .u16 (x.lo + x.st), .int .u16 x.hi, .int .u16 x.st]) (t := 39) (bk_at (by simp) _ _)) (by simp [Value.oneCell']) (by unfold maxLen; omega) (by omega) (by simp; omega) ?_; intro A3 cap3 w3 hown3 hgrow3 hat3; obtain ⟨g0, g1, hM3⟩ := Mk.push16 (x := ⟨x.lo + x.st, x.hi, x.st⟩) (HM2.out.alloc (.cells #[.int .u16 (x.lo + x.st), .int .u16 x.hi, .int .u16 x.st] 39)) (by simp) ⟨by first | omega | (simp only; omega), by first | omega | (simp only; omega), by first | omega | (simp only; omega), by first | omega | (simp only; omega), by first | omega | (simp only; omega), by first | omega | (simp only; omega)⟩ hown3 hgrow3; have HM3 := Lib.hid hM3; clear hM3))
        have hfin := cut_yes HEQ.out hlt Hx.out hc
        have HF := Lib.hid hfin; clear hfin
        go_roundw
        case rel => exact ⟨i + 1, A3, cap3, l ++ [⟨x.lo, x.lo, x.st⟩] ++ [⟨x.lo + x.st, x.hi, x.st⟩], by omega, by go_num, by simp; omega, HF.out, HM3.out⟩
        case measure => simp [intOf]; omega
      · go_wp2_with (at_builtin; refine wpList_append_all _ rfl _ _ _ rfl w.heap.size 39 i0 _ 3 6 Try.underlying24 hi0 hz0 hz1 hz2 rfl (by omega) (.slice A l.length c) l.length (cellsL .u16 l) rfl ((hown.alloc _).alloc _) (some ⟨wr.heap.size + 1, 0, none⟩) 1 1 [.int .u16 x.lo, .int .u16 x.hi, .int .u16 x.st] rfl rfl (fun h => by cases h) (news_one (cs := #[.int .u16 x.lo, .int .u16 x.hi, .int .u16 x.st]) (t := 39) (heap_new2 wr _ _)) (by simp [Value.oneCell']) (by unfold maxLen; omega) (by omega) (by simp; omega) ?_; intro A2 cap w1 hown1 hgrow hat; obtain ⟨e0, e1, hM1⟩ := Mk.push16 (x := x) ((HM.out.alloc (.cells #[.int .u16 x.lo, .int .u16 x.hi, .int .u16 x.st] 39)).alloc (.cells #[.int .u16 x.lo, .int .u16 x.hi, .int .u16 x.st] 39)) rfl ⟨by first | omega | (simp only; omega), by first | omega | (simp only; omega), by first | omega | (simp only; omega), by first | omega | (simp only; omega), by first | omega | (simp only; omega), by first | omega | (simp only; omega)⟩ hown1 hgrow; have HM1 := Lib.hid hM1; clear hM1)
        have hfin := cut_no HEQ.out hlt Hx.out hc
        have HF := Lib.hid hfin; clear hfin
        go_roundw
        case rel => exact ⟨i + 1, A2, cap, l ++ [x], by omega, by go_num, by simp; omega, HF.out, HM1.out⟩
        case measure => simp [intOf]; omega
    · have hlz : ¬ ((i : Int) < (a.length : Int)) := by omega
      have hfin := cut_end HEQ.out hi hlt
      have Hl := Lib.hid hfin; clear hfin HEQ
      have ll : l.length ≤ 80 := by omega
      go_wp2
      clear hszX hszT hszZ hszW t0 hlz hlt hi hl
      have HM0 := Lib.hid hM; clear hM
      go_loopw [6] (fun s wr => ∃ (i : Nat) (A' : Option Addr) (c' : Nat) (m : List Rg), i ≤ b.length ∧ s = .int .i64 (i : Int) ∧ m.length ≤ 2 * i ∧ m ++ cutL (b.drop i) = cutL b ∧ Mk w w.heap.size (w.heap.size + 1) X #[.slice A16 a.length c16, .slice A32 b.length c32, .int .i64 n] #[.slice none 0 0, .slice none 0 0, .int .i64 0] A c l A' c' m wr) (fun s _ => b.length - (intOf s).toNat)
      case atStart => exact ⟨0, _, _, [], Nat.zero_le _, rfl, by simp, by simp, HM0.out⟩
      case round =>
        obtain ⟨i, A', c', m, hi, rfl, hm, heq, hM⟩ := hrel
        have HEQ := Lib.hid heq; clear heq
        have t0 : wr.cell? ⟨w.heap.size, 1, none⟩ = some (.slice A32 b.length c32) := hM.bkT.cell 1
        have hszX := hM.bkX.lt
        have hszT := hM.bkT.lt
        have hszZ := hM.bkZ.lt
        have hszW := hM.bel.size
        by_cases hlt : i < b.length
        · obtain ⟨b1, o1, x, rfl, hb1, hx, c0, c1, c2, d1, d2, d3, d4, d5, d6⟩ := (rb.below hM.bel).at_ hlt
          have Hx := Lib.hid hx; clear hx
          have x0 : wr.cell? ⟨X, 1, none⟩ = some (.slice A' m.length c') := hM.bkX.cell 1
          have hneX : X ≠ wr.heap.size := by omega
          have hneX' : wr.heap.size ≠ X := by omega
          have hown := hM.own32
          have HM := Lib.hid hM; clear hM
          by_cases hc : x.lo + x.st ≤ x.hi
          · go_wp2_with (at_builtin; first
            | (refine wpList_append_all _ rfl _ _ _ rfl w.heap.size 65 j0 _ 3 12 Try.underlying25 hj0 hy0 hy1 hy2 rfl (by omega) (.slice A' m.length c') m.length (cellsL .u32 m) rfl ((hown.alloc _).alloc _) (some ⟨wr.heap.size + 1, 0, none⟩) 1 1 [.int .u32 x.lo, .int .u32 x.lo, .int .u32 x.st] rfl rfl (fun h => by cases h) (news_one (cs := #[.int .u32 x.lo, .int .u32 x.lo, .int .u32 x.st]) (t := 65) (heap_new2 wr _ _)) (by simp [Value.oneCell']) (by unfold maxLen; omega) (by omega) (by simp; omega) ?_; intro A2 cap w1 hown1 hgrow hat; obtain ⟨e0, e1, hM1⟩ := Mk.push32 (x := ⟨x.lo, x.lo, x.st⟩) ((HM.out.alloc (.cells #[.int .u32 x.lo, .int .u32 x.hi, .int .u32 x.st] 65)).alloc (.cells #[.int .u32 x.lo, .int .u32 x.lo, .int .u32 x.st] 65)) rfl ⟨by first | omega | (simp only; omega), by first | omega | (simp only; omega), by first | omega | (simp only; omega), by first | omega | (simp only; omega), by first | omega | (simp only; omega), by first | omega | (simp only; omega)⟩ hown1 hgrow; have HM1 := Lib.hid hM1; clear hM1; have HB5 := Lib.hid (Bk.grown ((Bk.new wr 65 #[.int .u32 x.lo, .int .u32 x.hi, .int .u32 x.st]).alloc (.cells #[.int .u32 x.lo, .int .u32 x.lo, .int .u32 x.st] 65)) hgrow (own_new hown)); have p0 := HB5.out.cell 0; have p1 := HB5.out.cell 1; have p2 := HB5.out.cell 2; have pf := HB5.out.frozen; simp only [List.getElem?_toArray, List.getElem?_cons_zero, List.getElem?_cons_succ] at p0 p1 p2; have HM2 := Lib.hid (HM1.out.only (R := wr.heap.size) (w1 := ((w1.setCell ⟨X, 1, none⟩ (.slice A2 (m.length + 1) cap)).setCell ⟨wr.heap.size, 0, none⟩ (.int .u32 (x.lo + x.st)))) (by omega) (by omega) (by omega) (own_new HM.out.own16) (own_meanwhile hown hat (by simp only [World.size_alloc]; omega)) hszW ((Only.refl _ _).store 0 _)); have hown2 := own_len (k' := m.length + 1) HM2.out.own32 (by simp); have hsz1 : w.heap.size ≤ w1.heap.size := by have := HM1.out.bel.size; simpa using this)
            | (refine wpList_append_all _ rfl _ _ _ rfl w.heap.size 65 j0 _ 3 12 Try.underlying25 hj0 hy0 hy1 hy2 rfl (by omega) (.slice A2 (m.length + 1) cap) (m.length + 1) (cellsL .u32 (m ++ [⟨x.lo, x.lo, x.st⟩])) rfl (hown2.alloc _) (some ⟨w1.heap.size, 0, none⟩) 1 1 [.int .u32 (x.lo + x.st), .int .u32 x.hi, .int .u32 x.st] rfl rfl (fun h => by cases h) (news_one (cs := #[.int .u32 (x.lo + x.st), .int .u32 x.hi, .int .u32 x.st]) (t := 65) (bk_at (by simp) _ _)) (by simp [Value.oneCell']) (by unfold maxLen; omega) (by omega) (by simp; omega) ?_; intro A3 cap3 w3 hown3 hgrow3 hat3; obtain ⟨g0, g1, hM3⟩ := Mk.push32 (x := ⟨x.lo + x.st, x.hi, x.st⟩) (HM2.out.alloc (.cells #[.int .u32 (x.lo + x.st), .int .u32 x.hi, .int .u32 x.st] 65)) (by simp) ⟨by first | omega | (simp only; omega), by first | omega | (simp only; omega), by first | omega | (simp only; omega), by first | omega | (simp only; omega), by first | omega | (simp only; omega), by first | omega | (simp only; omega)⟩ hown3 hgrow3; have HM3 := Lib.hid hM3; clear hM3))
            have hfin := cut_yes HEQ.out hlt Hx.out hc
            have HF := Lib.hid hfin; clear hfin
            go_roundw
            case rel => exact ⟨i + 1, A3, cap3, m ++ [⟨x.lo, x.lo, x.st⟩] ++ [⟨x.lo + x.st, x.hi, x.st⟩], by omega, by go_num, by simp; omega, HF.out, HM3.out⟩
            case measure => simp [intOf]; omega
          · go_wp2_with (at_builtin; refine wpList_append_all _ rfl _ _ _ rfl w.heap.size 65 j0 _ 3 12 Try.underlying25 hj0 hy0 hy1 hy2 rfl (by omega) (.slice A' m.length c') m.length (cellsL .u32 m) rfl ((hown.alloc _).alloc _) (some ⟨wr.heap.size + 1, 0, none⟩) 1 1 [.int .u32 x.lo, .int .u32 x.hi, .int .u32 x.st] rfl rfl (fun h => by cases h) (news_one (cs := #[.int .u32 x.lo, .int .u32 x.hi, .int .u32 x.st]) (t := 65) (heap_new2 wr _ _)) (by simp [Value.oneCell']) (by unfold maxLen; omega) (by omega) (by simp; omega) ?_; intro A2 cap w1 hown1 hgrow hat; obtain ⟨e0, e1, hM1⟩ := Mk.push32 (x := x) ((HM.out.alloc (.cells #[.int .u32 x.lo, .int .u32 x.hi, .int .u32 x.st] 65)).alloc (.cells #[.int .u32 x.lo, .int .u32 x.hi, .int .u32 x.st] 65)) rfl ⟨by first | omega | (simp only; omega), by first | omega | (simp only; omega), by first | omega | (simp only; omega), by first | omega | (simp only; omega), by first | omega | (simp only; omega), by first | omega | (simp only; omega)⟩ hown1 hgrow; have HM1 := Lib.hid hM1; clear hM1)
            have hfin := cut_no HEQ.out hlt Hx.out hc
            have HF := Lib.hid hfin; clear hfin
            go_roundw
            case rel => exact ⟨i + 1, A2, cap, m ++ [x], by omega, by go_num, by simp; omega, HF.out, HM1.out⟩
            case measure => simp [intOf]; omega
        · have hlz : ¬ ((i : Int) < (b.length : Int)) := by omega
          have hfin := cut_end HEQ.out hi hlt
          have Hm := Lib.hid hfin; clear hfin HEQ
          have lm : m.length ≤ 80 := by omega
          clear HM0
          have x0 : wr.cell? ⟨X, 0, none⟩ = some (.slice A l.length c) := hM.bkX.cell 0
          have HLT := Lib.hid (latin_any A c l wr _ (by omega) hM.rd16)
          go_wp2_with fail
          go_at_call 25
          refine HLT.out.mono ?_
          rintro e w9 ⟨rfl, rfl⟩
          clear HLT x0
          have x0 : wr.cell? ⟨X, 0, none⟩ = some (.slice A l.length c) := hM.bkX.cell 0
          have x1 : wr.cell? ⟨X, 1, none⟩ = some (.slice A' m.length c') := hM.bkX.cell 1
          have x2 : wr.cell? ⟨X, 2, none⟩ = some (.int .i64 0) := hM.bkX.cell 2
          have xf : ∀ i, wr.frozen? ⟨X, i, none⟩ = false := fun i => hM.bkX.frozen i
          have z0 : wr.cell? ⟨w.heap.size + 1, 0, none⟩ = some (.slice none 0 0) := hM.bkZ.cell 0
          have z1 : wr.cell? ⟨w.heap.size + 1, 1, none⟩ = some (.slice none 0 0) := hM.bkZ.cell 1
          have z2 : wr.cell? ⟨w.heap.size + 1, 2, none⟩ = some (.int .i64 0) := hM.bkZ.cell 2
          have zf : ∀ i, wr.frozen? ⟨w.heap.size + 1, i, none⟩ = false := fun i => hM.bkZ.frozen i
          have hne : w.heap.size + 1 ≠ X := hM.1.2.2.2.1
          have hne' : X ≠ w.heap.size + 1 := fun h => hne h.symm
          have HD := Lib.hid hM.done
          clear hM
          go_wp2
          obtain ⟨e0, e1, e2, hD⟩ := HD.out
          refine bodyPost_ret (v := .agg #[.slice A l.length c, .slice A' m.length c', .int .i64 (latN l)]) (by simp [results, Try.results21, go_sem, e0, e1, e2]) rfl ?_
          obtain rfl := Hl.out
          obtain rfl := Hm.out
          exact hD
end Go.Proofs.Ytnhmacmpobkdoaa
