/- The reference's Of: the table with a range for each number of a list of code points, in new memory. -/
import Derived.Test.YtnhmacmpobkdoaaRns
import Derived.Test.YtnhmacmpobkdoaaSpec
namespace Go.Proofs.Ytnhmacmpobkdoaa
open Go.RowKit
set_option linter.unusedVariables false
attribute [local go_sem ↓] Go.wp_at_zero Go.wp_at_succ

set_option maxHeartbeats 4000000 in
set_option maxRecDepth 100000 in
theorem of_any (A0 : Option Addr) (c0 : Nat) (zs : List Int) (w : World) (hl0 : zs.length ≤ 100000000) (hr : Rn w w.heap.size A0 zs) (hc : Cps zs) :
    Calls Try.prog 27 #[.slice A0 zs.length c0] w (Made w (ofA zs) (ofB zs)) := by
  obtain ⟨i0, hi0, hz0, hz1, hz2⟩ := info_parts info_r16
  obtain ⟨j0, hj0, hy0, hy1, hy2⟩ := info_parts info_r32
  have hM0 := Mk.begin0 w
  go_enter Try.func27, Try.ntmps27
  go_wp2
  generalize hX : w.heap.size + 1 + 1 + 1 = X at *
  have HX := Lib.hid hX; clear hX
  go_loopw [4] (fun s wr => ∃ (i : Nat) (A : Option Addr) (c : Nat) (l : List Rg) (A' : Option Addr) (c' : Nat) (m : List Rg), i ≤ zs.length ∧ s = .int .i64 (i : Int) ∧ l.length ≤ i ∧ m.length ≤ i ∧ l ++ ofA (zs.drop i) = ofA zs ∧ m ++ ofB (zs.drop i) = ofB zs ∧ Mk w w.heap.size w.heap.size X #[.slice none 0 0, .slice none 0 0, .int .i64 0] #[.slice none 0 0, .slice none 0 0, .int .i64 0] A c l A' c' m wr) (fun s _ => zs.length - (intOf s).toNat)
  case atStart => exact ⟨0, _, _, [], _, _, [], Nat.zero_le _, rfl, by simp, by simp, by simp, by simp, hM0⟩
  case round =>
    clear hM0
    obtain ⟨i, A, c, l, A', c', m, hi, rfl, hl, hm, heq, heq', hM⟩ := hrel
    have HE := Lib.hid heq; have HE' := Lib.hid heq'; clear heq heq'
    have hszX := hM.bkX.lt
    have hszW := hM.bel.size
    by_cases hlt : i < zs.length
    · obtain ⟨b1, o1, z, rfl, hb1, hz, c0⟩ := (hr.below hM.bel).at_ hlt
      obtain ⟨d1, d2⟩ := hc.at_ hz
      have Hz := Lib.hid hz; clear hz
      by_cases h16 : z < 65536
      · skip
        have x0 : wr.cell? ⟨X, 0, none⟩ = some (.slice A l.length c) := hM.bkX.cell 0
        have hown := hM.own16
        have HM := Lib.hid hM; clear hM
        go_wp2_with (at_builtin; refine wpList_append_all _ rfl _ _ _ rfl w.heap.size 39 i0 _ 3 6 Try.underlying24 hi0 hz0 hz1 hz2 rfl (by omega) (.slice A l.length c) l.length (cellsL .u16 l) rfl (hown.alloc _) (some ⟨wr.heap.size, 0, none⟩) 1 1 [.int .u16 z, .int .u16 z, .int .u16 1] rfl rfl (fun h => by cases h) (news_one (cs := #[.int .u16 z, .int .u16 z, .int .u16 1]) (t := 39) (heap_alloc_new wr _)) (by simp [Value.oneCell']) (by unfold maxLen; omega) (by omega) (by simp; omega) ?_; intro A2 cap w1 hown1 hgrow hat; obtain ⟨e0, e1, hM1⟩ := Mk.push16 (x := ⟨z, z, 1⟩) (HM.out.alloc (.cells #[.int .u16 z, .int .u16 z, .int .u16 1] 39)) rfl ⟨by first | omega | (simp only; omega), by first | omega | (simp only; omega), by first | omega | (simp only; omega), by first | omega | (simp only; omega), by first | omega | (simp only; omega), by first | omega | (simp only; omega)⟩ hown1 hgrow; have HM1 := Lib.hid hM1; clear hM1)
        obtain ⟨q1, q2⟩ := of_lt Hz.out h16 HE.out HE'.out
        have Q1 := Lib.hid q1; have Q2 := Lib.hid q2; clear q1 q2
        go_roundw
        case rel => exact ⟨i + 1, A2, cap, l ++ [⟨z, z, 1⟩], A', c', m, by omega, by go_num, by first | omega | (simp; omega), by first | omega | (simp; omega), Q1.out, Q2.out, HM1.out⟩
        case measure => simp [intOf]; omega
      · have h32 : 65536 ≤ z := by omega
        have x0 : wr.cell? ⟨X, 1, none⟩ = some (.slice A' m.length c') := hM.bkX.cell 1
        have hown := hM.own32
        have HM := Lib.hid hM; clear hM
        go_wp2_with (at_builtin; refine wpList_append_all _ rfl _ _ _ rfl w.heap.size 65 j0 _ 3 12 Try.underlying25 hj0 hy0 hy1 hy2 rfl (by omega) (.slice A' m.length c') m.length (cellsL .u32 m) rfl (hown.alloc _) (some ⟨wr.heap.size, 0, none⟩) 1 1 [.int .u32 z, .int .u32 z, .int .u32 1] rfl rfl (fun h => by cases h) (news_one (cs := #[.int .u32 z, .int .u32 z, .int .u32 1]) (t := 65) (heap_alloc_new wr _)) (by simp [Value.oneCell']) (by unfold maxLen; omega) (by omega) (by simp; omega) ?_; intro A2 cap w1 hown1 hgrow hat; obtain ⟨e0, e1, hM1⟩ := Mk.push32 (x := ⟨z, z, 1⟩) (HM.out.alloc (.cells #[.int .u32 z, .int .u32 z, .int .u32 1] 65)) rfl ⟨by first | omega | (simp only; omega), by first | omega | (simp only; omega), by first | omega | (simp only; omega), by first | omega | (simp only; omega), by first | omega | (simp only; omega), by first | omega | (simp only; omega)⟩ hown1 hgrow; have HM1 := Lib.hid hM1; clear hM1)
        obtain ⟨q1, q2⟩ := of_ge Hz.out h32 HE.out HE'.out
        have Q1 := Lib.hid q1; have Q2 := Lib.hid q2; clear q1 q2
        go_roundw
        case rel => exact ⟨i + 1, A, c, l, A2, cap, m ++ [⟨z, z, 1⟩], by omega, by go_num, by first | omega | (simp; omega), by first | omega | (simp; omega), Q1.out, Q2.out, HM1.out⟩
        case measure => simp [intOf]; omega
    · have hlz : ¬ ((i : Int) < (zs.length : Int)) := by omega
      obtain ⟨q1, q2⟩ := of_end hi hlt HE.out HE'.out
      have Hl := Lib.hid q1; have Hm := Lib.hid q2; clear q1 q2 HE HE'
      have x0 : wr.cell? ⟨X, 0, none⟩ = some (.slice A l.length c) := hM.bkX.cell 0
      have HLT := Lib.hid (latin_any A c l wr _ (by omega) hM.rd16)
      go_wp2_with fail
      go_at_call 25
      refine HLT.out.mono ?_
      rintro e w9 ⟨rfl, rfl⟩
      clear HLT x0
      have x0 : wr.cell? ⟨X, 0, none⟩ = some (.slice A l.length c) := hM.bkX.cell 0
      have x1 : wr.cell? ⟨X, 1, none⟩ = some (.slice A' m.length c') := hM.bkX.cell 1
      have x2 : wr.cell? ⟨X, 2, none⟩ = some (.int .i64 0) := hM.bkX.cell 2
      have xf : ∀ i, wr.frozen? ⟨X, i, none⟩ = false := fun i => hM.bkX.frozen i
      have z0 : wr.cell? ⟨w.heap.size, 0, none⟩ = some (.slice none 0 0) := hM.bkZ.cell 0
      have z1 : wr.cell? ⟨w.heap.size, 1, none⟩ = some (.slice none 0 0) := hM.bkZ.cell 1
      have z2 : wr.cell? ⟨w.heap.size, 2, none⟩ = some (.int .i64 0) := hM.bkZ.cell 2
      have zf : ∀ i, wr.frozen? ⟨w.heap.size, i, none⟩ = false := fun i => hM.bkZ.frozen i
      have hne : w.heap.size ≠ X := hM.1.2.2.2.1
      have hne' : X ≠ w.heap.size := fun h => hne h.symm
      have HD := Lib.hid hM.done
      clear hM
      go_wp2
      obtain ⟨e0, e1, e2, hD⟩ := HD.out
      refine bodyPost_ret (v := .agg #[.slice A l.length c, .slice A' m.length c', .int .i64 (latN l)]) (by simp [results, Try.results27, go_sem, e0, e1, e2]) rfl ?_
      obtain rfl := Hl.out
      obtain rfl := Hm.out
      exact hD
end Go.Proofs.Ytnhmacmpobkdoaa
