/- FnIsLatin: for every input the law returns true, and what came in is as it was. No conditions. -/
import Derived.Test.YtnhmacmpobkdoaaLawL
import Derived.Test.YtnhmacmpobkdoaaFew
import Derived.Test.YtnhmacmpobkdoaaSpec
import Derived.Deep.RegionLaw
import Derived.Deep.DrawnRows
import Derived.Test.YtnhmacmpobkdoaaRows
import Derived.Deep.RegionHeld3
import Derived.Deep.RegionWith
import Derived.ProofKit
import Derived.OpenShut
import Derived.ShutString
import Derived.ChangeOld
namespace Go.Proofs.Ytnhmacmpobkdoaa.fnIsLatin
open Go.ChangeShapes Go.WideShapes Go.ChangeAt Go.RowKit
set_option linter.unusedVariables false

set_option maxHeartbeats 8000000 in
set_option maxRecDepth 100000 in
theorem walk (A : Option Addr) (n c : Nat) (w : World) (hA : RdB w w.heap.size A n) (hm : n ≤ 9223372036854775807) :
    Calls Try.prog 7 #[.slice A n c] w fun e w' => e = .returned (.bool true) ∧ Below w.heap.size w w' := by
  rcases Nat.lt_or_ge 1048576 n with hn | hn
  · have hnz : (1048576 : Int) < (n : Int) := by omega
    go_enter Try.func7, Try.ntmps7
    go_wp2
    go_ret
    exact ⟨rfl, Below.refl _ _⟩
  have hnz : ¬ ((1048576 : Int) < (n : Int)) := by omega
  go_enter Try.func7, Try.ntmps7
  have HDR := Lib.hid (drawIs_any A n c w hn hA)
  go_wp2_with fail
  go_at_call 17
  refine HDR.out.mono ?_
  rintro e w1 ⟨A16, c16, A32, c32, a, b, tn, r, rfl, hT, hr0, hr1, hb1⟩
  clear HDR
  have hb0w := hb1
  have hal := (Below.refl w1.heap.size w1).alloc (Nat.le_refl _) (.cells #[.slice A16 a.length c16, .slice A32 b.length c32, .int .i64 tn] 27)
  have hnb := Bk.new w1 27 #[.slice A16 a.length c16, .slice A32 b.length c32, .int .i64 tn]
  have ra0 := hT.rd16.to hal
  have rb0 := hT.rd32.to hal
  have la : a.length ≤ 40 := hT.2.2.2.2.1
  have lb : b.length ≤ 40 := hT.2.2.2.2.2
  have hbW := hb0w.trans (hal.mono hb0w.size)
  have hszW : (w1.alloc (.cells #[.slice A16 a.length c16, .slice A32 b.length c32, .int .i64 tn] 27)).heap.size = w1.heap.size + 1 := by simp
  go_wp2_with fail
  generalize hW : w1.alloc (.cells #[.slice A16 a.length c16, .slice A32 b.length c32, .int .i64 tn] 27) = W at *
  have HW := Lib.hid hW; clear hW hb0w hT hb1 hal
  have hsz0 : w1.heap.size < W.heap.size := by omega
  have keepS : ∀ w', Below W.heap.size W w' → w'.cell? ⟨w1.heap.size, 0, none⟩ = some (.slice A16 a.length c16) ∧ w'.cell? ⟨w1.heap.size, 1, none⟩ = some (.slice A32 b.length c32) ∧ w'.cell? ⟨w1.heap.size, 2, none⟩ = some (.int .i64 tn) ∧ Below W.heap.size W w' := fun w' h => by
    have hb := hnb.below h hsz0
    exact ⟨by rw [hb.cell]; rfl, by rw [hb.cell]; rfl, by rw [hb.cell]; rfl, h⟩
  have KS := Lib.hid keepS; clear keepS hnb hszW
  have hW0 : Below W.heap.size W W := Below.refl _ _
  have HG := Lib.hid (good_any A16 A32 c16 c32 a b tn W (by omega) (by omega) ra0 rb0)
  go_at_call 18
  refine HG.out.mono ?_
  rintro e wg ⟨rfl, hq⟩
  clear HG
  cases h1 : goodB ⟨a, b, tn⟩
  · have hfin := hbW.trans (hq.mono hbW.size)
    go_wp2
    go_ret
    exact ⟨rfl, hfin⟩
  obtain ⟨v1, v2, td1, td2, hlat⟩ := goodB_true h1
  have HLAT := Lib.hid hlat; have TD1 := Lib.hid td1; have TD2 := Lib.hid td2
  clear hlat td1 td2 h1
  obtain ⟨y0, y1, y2, -⟩ := KS.out wg hq
  have sa := v1.stp ra0.wf
  obtain ⟨i0, hi0, hz0, hz1, hz2⟩ := info_parts info_r16
  have hF0 := Few.begin hq
  have hqs := hq.size
  have HF0 := Lib.hid hF0; clear hF0
  go_wp2_with fail
  generalize hX : wg.heap.size + 1 = X at *
  have HX := Lib.hid hX; clear hX y0 y1 y2
  go_loopw [6] (fun s wr => ∃ (i : Nat) (A' : Option Addr) (c' : Nat) (l : List Rg), i ≤ a.length ∧ s = .int .i64 (i : Int) ∧ l.length ≤ i ∧ FewL a l i ∧ Few W X A' c' l wr) (fun s _ => a.length - (intOf s).toNat)
  case atStart => exact ⟨0, _, _, [], Nat.zero_le _, rfl, by simp, FewL.nil a, HF0.out⟩
  case round =>
    obtain ⟨i, A', c', l, hi, rfl, hl, hfew, hM⟩ := hrel
    have HFW := Lib.hid hfew; clear hfew HF0 HX hqs
    obtain ⟨y0, y1, y2, -⟩ := KS.out wr hM.bel
    have hszX := hM.bk.lt
    have hszW := hM.bel.size
    have hcase : (i < a.length ∧ (a.getD i ⟨0, 0, 0⟩).lo ≤ 255) ∨ (i < a.length ∧ 255 < (a.getD i ⟨0, 0, 0⟩).lo) ∨ ¬ i < a.length := by omega
    rcases hcase with ⟨hlt, hlo⟩ | hcase
    · obtain ⟨b1, o1, x, rfl, hb1, hx, c0, c1, c2, d1, d2, d3, d4, d5, d6⟩ := (ra0.below hM.bel).at_ hlt
      rw [hx] at hlo
      have Hx := Lib.hid hx; clear hx
      have iz : (i : Int) < (a.length : Int) := by omega
      have x0 : wr.cell? ⟨X, 0, none⟩ = some (.slice A' l.length c') := hM.bk.cell 0
      have q2 : ∀ o1, (wr.alloc o1).cell? ⟨X, 0, none⟩ = some (.slice A' l.length c') := fun o1 => (hM.alloc o1).bk.cell 0
      have hown := hM.own
      have HM := Lib.hid hM; clear hM
      go_wp2_with fail
      go_region_law ((refine step_append_all _ (by rfl) _ _ _ (by rfl) W.heap.size 39 i0 _ 3 6 Try.underlying24 hi0 hz0 hz1 hz2 rfl (by omega) (.slice A' l.length c') l.length (cellsL .u16 l) (by rfl) ((hown.alloc _).drew) (some ⟨wr.heap.size, 0, none⟩) 1 1 [.int .u16 x.lo, .int .u16 x.hi, .int .u16 x.st] (by rfl) rfl (fun h => by cases h) (news_one (cs := #[.int .u16 x.lo, .int .u16 x.hi, .int .u16 x.st]) (t := 39) (heap_alloc_new wr _)) (by simp [Value.oneCell']) (by unfold maxLen; omega) (by omega) (by simp; omega) ?_; intro A2 cap w2 hown1 hgrow hat; obtain ⟨e0, e1, hM1⟩ := Few.push (x := x) ((HM.out.alloc (.cells #[.int .u16 x.lo, .int .u16 x.hi, .int .u16 x.st] 39)).drew) ⟨by first | omega | (simp only; omega), by first | omega | (simp only; omega), by first | omega | (simp only; omega), by first | omega | (simp only; omega), by first | omega | (simp only; omega), by first | omega | (simp only; omega)⟩ hown1 hgrow; have HM1 := Lib.hid hM1; clear hM1))
      all_goals (
        clear x0 q2 hown hown1 hgrow hat
        have HF := Lib.hid (HFW.out.snoc hlt Hx.out hlo)
        go_wp2
        go_roundw
        case rel => exact ⟨i + 1, A2, cap, l ++ [x], by omega, by go_num, by simp; omega, HF.out, HM1.out⟩
        case measure => simp [intOf]; omega)
    have HK := Lib.hid (show i < a.length → 255 < (a.getD i ⟨0, 0, 0⟩).lo from fun h => by omega)
    have u1 := HFW.out.srt v1
    have us := HFW.out.stp sa
    have HUL := Lib.hid HFW.out.2
    have HIS := Lib.hid (fun (r : Int) (hr : r ≤ 255) => HFW.out.is (b := b) v1 v2 HK.out tn hr)
    have HCW := Lib.hid (cnt_want u1 us HUL.out)
    have ll : l.length ≤ 40 := by omega
    have x0 : wr.cell? ⟨X, 0, none⟩ = some (.slice A' l.length c') := hM.bk.cell 0
    have x2 : wr.cell? ⟨X, 2, none⟩ = some (.int .i64 0) := hM.bk.cell 2
    have xf : ∀ i, wr.frozen? ⟨X, i, none⟩ = false := fun i => hM.bk.frozen i
    have HLT := Lib.hid (latin_any A' c' l wr _ (by omega) hM.rd)
    have HD := Lib.hid (hM.done (latN l))
    have HRA := Lib.hid ra0; clear ra0
    have hpart : (∃ (b1 o1 : Nat) (x : Rg), A16 = some ⟨b1, o1, none⟩ ∧ (i : Int) < (a.length : Int) ∧ 255 < x.lo ∧ x.lo < 65536 ∧ wr.cell? ⟨b1, o1 + i * 3, none⟩ = some (.int .u16 x.lo)) ∨ ¬ ((i : Int) < (a.length : Int)) := by
      rcases hcase with ⟨hlt, hlo⟩ | hlt
      · obtain ⟨b1, o1, x, rfl, hb1, hx, c0, c1, c2, d1, d2, d3, d4, d5, d6⟩ := (HRA.out.below hM.bel).at_ hlt
        rw [hx] at hlo
        exact .inl ⟨b1, o1, x, rfl, by omega, hlo, d2, c0⟩
      · exact .inr (by omega)
    clear hcase hM HK HFW hi hl
    rcases hpart with ⟨b1, o1, x, rfl, iz, hlo, hlo2, c0⟩ | iz
    · skip
      go_wp2_with fail
      go_at_call 25
      refine HLT.out.mono ?_
      rintro e w9 ⟨rfl, rfl⟩
      clear HLT
      go_wp2_with fail
      have hD := HD.out; clear HD x0 x2 xf y0 y1 y2 hszX hszW iz
      generalize hV : wr.setCell ⟨X, 2, none⟩ (.int .i64 (latN l)) = V at *
      clear hV
      obtain ⟨hXb, hXr, hXq⟩ := hD
      have kV := fun w' (h : Below V.heap.size V w') => (⟨KS.out w' (chain h hXq), (hXb.below h hXb.lt).cell 0, (hXb.below h hXb.lt).cell 1, (hXb.below h hXb.lt).cell 2, HRA.out.to (chain h hXq), rb0.to (chain h hXq), hXr.to h⟩ : _ ∧ _ ∧ _ ∧ _ ∧ _ ∧ _ ∧ _)
      have KV := Lib.hid kV; have HXQ := Lib.hid hXq; clear kV KS hXb hXr hXq HRA rb0 HW
      go_loopw [7, 8] (fun s7 s8 wr => ∃ k : Nat, k ≤ 256 ∧ s7 = .int .i64 (cntB (memB l) k) ∧ s8 = .int .i64 (k : Int) ∧ Below V.heap.size V wr) (fun _ s8 _ => 256 - (intOf s8).toNat)
      case atStart => exact ⟨0, by omega, rfl, rfl, Below.refl _ _⟩
      case round =>
        obtain ⟨k, hk, h7, rfl, hB⟩ := hrel
        have hcb := cntB_bound (memB l) k
        by_cases hkl : k < 256
        · subst h7
          have kz : (k : Int) ≤ 255 := by omega
          have hcy := cntB_yes (f := memB l) (k := k)
          have hcn := cntB_no (f := memB l) (k := k)
          have HCY := Lib.hid hcy; have HCN := Lib.hid hcn; clear hcy hcn
          generalize cntB (memB l) k = cn at *
          obtain ⟨⟨y0, y1, y2, -⟩, x0, x1, x2, ra, rb, -⟩ := KV.out wr hB
          simp only [List.getElem?_toArray, List.getElem?_cons_zero, List.getElem?_cons_succ] at x0 x1 x2
          cases hmk : memB l (k : Int)
          all_goals (
            have hi1 := (HIS.out (k : Int) kz).trans hmk
            have hi2 := (isB_alone l (latN l) (k : Int)).trans hmk
            have HMK := Lib.hid hmk; clear hmk
            have HC1 := Lib.hid (hi1 ▸ implIs_any _ _ c16 c32 a b tn (k : Int) wr (by omega) (by omega) v1 v2 ra rb); have HI2 := Lib.hid hi2; clear hi1 hi2 ra rb
            go_wp2_with fail
            go_at_call 20
            refine HC1.out.mono ?_
            rintro e w4 ⟨rfl, hb4⟩
            clear HC1 y0 y1 y2 x0 x1 x2
            have hB4 := chain hb4 hB; clear hb4
            obtain ⟨-, x0, x1, x2, -, -, rl⟩ := KV.out w4 hB4
            simp only [List.getElem?_toArray, List.getElem?_cons_zero, List.getElem?_cons_succ] at x0 x1 x2
            have HC2 := Lib.hid (HI2.out ▸ implIs_any A' none c' 0 l [] (latN l) (k : Int) w4 (by omega) (by omega) u1 (srt_nil _ _) rl Rd.nil); clear rl
            go_wp2_with fail
            go_at_call 20
            refine HC2.out.mono ?_
            rintro e w5 ⟨rfl, hb5⟩
            clear HC2 x0 x1 x2
            have hB5 := chain hb5 hB4; clear hb5 hB4
            have HB5 := Lib.hid hB5; clear hB5
            go_wp2
            go_roundw
            case rel => exact ⟨k + 1, by omega, by first | rw [HCY.out HMK.out] | rw [HCN.out HMK.out], by go_num, HB5.out⟩
            case measure => simp [intOf]; omega)
        · have h7' := h7.trans (by rw [show k = 256 from by omega, HCW.out] : _ = Value.int .i64 (wantL l))
          subst h7'
          clear hcb HIS HCW
          have kz : ¬ ((k : Int) ≤ 255) := by omega
          have HB0 := Lib.hid hB; clear hB
          have HU1 := Lib.hid u1; clear u1
          go_wp2_with fail
          clear kz
          go_loopw [10, 11] (fun s10 s11 wr => ∃ (j : Nat) (z : Int), j ≤ l.length ∧ s10 = .int .i64 z ∧ s11 = .int .i64 (j : Int) ∧ 0 ≤ z ∧ z ≤ (j : Int) * 256 ∧ z + wantL (l.drop j) = wantL l ∧ Below V.heap.size V wr) (fun _ s11 _ => l.length - (intOf s11).toNat)
          case atStart => exact ⟨0, 0, by omega, rfl, rfl, by omega, by omega, by simp, HB0.out⟩
          case round =>
            obtain ⟨j, z, hj, rfl, rfl, hz0', hz1', heq, hB⟩ := hrel
            have HEQ := Lib.hid heq; clear heq
            obtain ⟨-, x0, -, -, -, -, rl⟩ := KV.out wr hB
            simp only [List.getElem?_toArray, List.getElem?_cons_zero] at x0
            have hszX := hB.size
            by_cases hlt : j < l.length
            · have hX := HUL.out _ (getD_mem hlt)
              have hS := us _ (getD_mem hlt)
              obtain ⟨b2, o2, y, rfl, hb2, hy, c0, c1, c2, d1, d2, d3, d4, d5, d6⟩ := rl.at_ hlt
              rw [hy] at hX hS
              obtain ⟨f1, f2⟩ := hS
              have HF := Lib.hid (want_step HEQ.out hlt hy); clear hy
              have hwb := want1_bound d1 ⟨f1, f2⟩ hX
              have jz : (j : Int) < (l.length : Int) := by omega
              have k4 : (y.st == 0) = false := by simp; omega
              have HB1 := Lib.hid (hB.alloc hB.size (.cells #[.int .u16 y.lo, .int .u16 y.hi, .int .u16 y.st] 39)); clear hB
              have hwe := want1_eq y
              have w1' := IntWalk.wrap64_in (z + (want1 y - 1)) (by omega)
              have w2' := IntWalk.wrap64_in (z + (want1 y - 1) + 1) (by omega)
              have HWE := Lib.hid hwe; have HW1 := Lib.hid w1'; have HW2 := Lib.hid w2'; clear hwe w1' w2'
              go_wp2
              go_roundw
              case rel => exact ⟨j + 1, z + want1 y, by omega, by rw [HWE.out, HW1.out, HW2.out]; go_num, by go_num, by omega, by omega, HF.out, HB1.out⟩
              case measure => simp [intOf]; omega
            · have jz : ¬ ((j : Int) < (l.length : Int)) := by omega
              obtain rfl := want_end HEQ.out hj hlt
              have hfin := hbW.trans ((chain hB HXQ.out).mono hbW.size)
              clear hB HEQ
              go_wp2
              go_ret
              exact ⟨rfl, hfin⟩
    · skip
      go_wp2_with fail
      go_at_call 25
      refine HLT.out.mono ?_
      rintro e w9 ⟨rfl, rfl⟩
      clear HLT
      go_wp2_with fail
      have hD := HD.out; clear HD x0 x2 xf y0 y1 y2 hszX hszW iz
      generalize hV : wr.setCell ⟨X, 2, none⟩ (.int .i64 (latN l)) = V at *
      clear hV
      obtain ⟨hXb, hXr, hXq⟩ := hD
      have kV := fun w' (h : Below V.heap.size V w') => (⟨KS.out w' (chain h hXq), (hXb.below h hXb.lt).cell 0, (hXb.below h hXb.lt).cell 1, (hXb.below h hXb.lt).cell 2, HRA.out.to (chain h hXq), rb0.to (chain h hXq), hXr.to h⟩ : _ ∧ _ ∧ _ ∧ _ ∧ _ ∧ _ ∧ _)
      have KV := Lib.hid kV; have HXQ := Lib.hid hXq; clear kV KS hXb hXr hXq HRA rb0 HW
      go_loopw [7, 8] (fun s7 s8 wr => ∃ k : Nat, k ≤ 256 ∧ s7 = .int .i64 (cntB (memB l) k) ∧ s8 = .int .i64 (k : Int) ∧ Below V.heap.size V wr) (fun _ s8 _ => 256 - (intOf s8).toNat)
      case atStart => exact ⟨0, by omega, rfl, rfl, Below.refl _ _⟩
      case round =>
        obtain ⟨k, hk, h7, rfl, hB⟩ := hrel
        have hcb := cntB_bound (memB l) k
        by_cases hkl : k < 256
        · subst h7
          have kz : (k : Int) ≤ 255 := by omega
          have hcy := cntB_yes (f := memB l) (k := k)
          have hcn := cntB_no (f := memB l) (k := k)
          have HCY := Lib.hid hcy; have HCN := Lib.hid hcn; clear hcy hcn
          generalize cntB (memB l) k = cn at *
          obtain ⟨⟨y0, y1, y2, -⟩, x0, x1, x2, ra, rb, -⟩ := KV.out wr hB
          simp only [List.getElem?_toArray, List.getElem?_cons_zero, List.getElem?_cons_succ] at x0 x1 x2
          cases hmk : memB l (k : Int)
          all_goals (
            have hi1 := (HIS.out (k : Int) kz).trans hmk
            have hi2 := (isB_alone l (latN l) (k : Int)).trans hmk
            have HMK := Lib.hid hmk; clear hmk
            have HC1 := Lib.hid (hi1 ▸ implIs_any _ _ c16 c32 a b tn (k : Int) wr (by omega) (by omega) v1 v2 ra rb); have HI2 := Lib.hid hi2; clear hi1 hi2 ra rb
            go_wp2_with fail
            go_at_call 20
            refine HC1.out.mono ?_
            rintro e w4 ⟨rfl, hb4⟩
            clear HC1 y0 y1 y2 x0 x1 x2
            have hB4 := chain hb4 hB; clear hb4
            obtain ⟨-, x0, x1, x2, -, -, rl⟩ := KV.out w4 hB4
            simp only [List.getElem?_toArray, List.getElem?_cons_zero, List.getElem?_cons_succ] at x0 x1 x2
            have HC2 := Lib.hid (HI2.out ▸ implIs_any A' none c' 0 l [] (latN l) (k : Int) w4 (by omega) (by omega) u1 (srt_nil _ _) rl Rd.nil); clear rl
            go_wp2_with fail
            go_at_call 20
            refine HC2.out.mono ?_
            rintro e w5 ⟨rfl, hb5⟩
            clear HC2 x0 x1 x2
            have hB5 := chain hb5 hB4; clear hb5 hB4
            have HB5 := Lib.hid hB5; clear hB5
            go_wp2
            go_roundw
            case rel => exact ⟨k + 1, by omega, by first | rw [HCY.out HMK.out] | rw [HCN.out HMK.out], by go_num, HB5.out⟩
            case measure => simp [intOf]; omega)
        · have h7' := h7.trans (by rw [show k = 256 from by omega, HCW.out] : _ = Value.int .i64 (wantL l))
          subst h7'
          clear hcb HIS HCW
          have kz : ¬ ((k : Int) ≤ 255) := by omega
          have HB0 := Lib.hid hB; clear hB
          have HU1 := Lib.hid u1; clear u1
          go_wp2_with fail
          clear kz
          go_loopw [10, 11] (fun s10 s11 wr => ∃ (j : Nat) (z : Int), j ≤ l.length ∧ s10 = .int .i64 z ∧ s11 = .int .i64 (j : Int) ∧ 0 ≤ z ∧ z ≤ (j : Int) * 256 ∧ z + wantL (l.drop j) = wantL l ∧ Below V.heap.size V wr) (fun _ s11 _ => l.length - (intOf s11).toNat)
          case atStart => exact ⟨0, 0, by omega, rfl, rfl, by omega, by omega, by simp, HB0.out⟩
          case round =>
            obtain ⟨j, z, hj, rfl, rfl, hz0', hz1', heq, hB⟩ := hrel
            have HEQ := Lib.hid heq; clear heq
            obtain ⟨-, x0, -, -, -, -, rl⟩ := KV.out wr hB
            simp only [List.getElem?_toArray, List.getElem?_cons_zero] at x0
            have hszX := hB.size
            by_cases hlt : j < l.length
            · have hX := HUL.out _ (getD_mem hlt)
              have hS := us _ (getD_mem hlt)
              obtain ⟨b2, o2, y, rfl, hb2, hy, c0, c1, c2, d1, d2, d3, d4, d5, d6⟩ := rl.at_ hlt
              rw [hy] at hX hS
              obtain ⟨f1, f2⟩ := hS
              have HF := Lib.hid (want_step HEQ.out hlt hy); clear hy
              have hwb := want1_bound d1 ⟨f1, f2⟩ hX
              have jz : (j : Int) < (l.length : Int) := by omega
              have k4 : (y.st == 0) = false := by simp; omega
              have HB1 := Lib.hid (hB.alloc hB.size (.cells #[.int .u16 y.lo, .int .u16 y.hi, .int .u16 y.st] 39)); clear hB
              have hwe := want1_eq y
              have w1' := IntWalk.wrap64_in (z + (want1 y - 1)) (by omega)
              have w2' := IntWalk.wrap64_in (z + (want1 y - 1) + 1) (by omega)
              have HWE := Lib.hid hwe; have HW1 := Lib.hid w1'; have HW2 := Lib.hid w2'; clear hwe w1' w2'
              go_wp2
              go_roundw
              case rel => exact ⟨j + 1, z + want1 y, by omega, by rw [HWE.out, HW1.out, HW2.out]; go_num, by go_num, by omega, by omega, HF.out, HB1.out⟩
              case measure => simp [intOf]; omega
            · have jz : ¬ ((j : Int) < (l.length : Int)) := by omega
              obtain rfl := want_end HEQ.out hj hlt
              have hfin := hbW.trans ((chain hB HXQ.out).mono hbW.size)
              clear hB HEQ
              go_wp2
              go_ret
              exact ⟨rfl, hfin⟩

theorem own : ownKnob Try.prog.godebug = none := by kernel_rfl
theorem laidOut : laidOutB Try.prog = true := by kernel_rfl

set_option maxRecDepth 100000 in
theorem lifted (os : Os) (started : os.Started) (H : Type) (enc : TypeId × Value → H) :
    ReturnsInHanded {} Try.checked os 7 .any (Rows.fnIsLatinSpec.pre6 enc Try.prog Try.f7 Rows.fnIsLatinRow.domain false) (Rows.fnIsLatinSpec.post enc Try.prog Try.f7 false true false false) := by
  refine returnsInHanded_of_change (C := Try.checked) own started (by kernel_rfl) Try.func7
    (ChangeSpec.witness6 (enc := enc) (C := Try.checked) false ⟨#[], #[.slice none 0 0], []⟩ 8 (by kernel_rfl) (by kernel_rfl) (by kernel_rfl) (by kernel_rfl)) ?_
  intro W base args ds gs before hval0 hW hcnd _
  have hval : ∀ (j : Nat) t v, Try.f7.params[j]? = some t → args[j]? = some v → Value.okWide Try.prog W .any base t v := hval0
  have hW' := hW
  obtain ⟨p, q, hA0, hV, rfl, hfz, hnd⟩ := hW
  have hA : DataW.TrodAll enc Try.prog W 0 (fun _ => true) true Try.f7.params.toList args.toList ds p := hA0
  rw [Try.params7] at hA hval
  obtain ⟨v0, vs0, d0, ds0, p0, q0, hargs, rfl, rfl, h0, r0⟩ := trodAll_cons hA
  obtain ⟨rfl, rfl, rfl⟩ := trodAll_nil r0
  obtain rfl : args = #[v0] := by cases args; simp_all
  obtain ⟨rfl, rfl⟩ := trodVars_none hV
  obtain ⟨a0, len0, cap0, rfl⟩ := okWide_slice Try.underlying22 (hval 0 22 v0 rfl rfl)
  have k0 := h0
  have lt0 : ∀ x ∈ p0, x.block < W.heap.size := by obtain ⟨m, hm⟩ := k0; exact DataW.trod_lt m _ _ _ hm
  obtain ⟨hB, hM⟩ : RdB W W.heap.size a0 len0 ∧ len0 ≤ 9223372036854775807 := by
    obtain ⟨fuel, hf⟩ := h0
    rcases open_ints Try.underlying22 Try.underlying5 (by kernel_rfl) hf with ⟨hcs, _⟩ | ⟨x, l, c, zs, hcs, _, hl, hm, hz, _, hcell, hwz⟩
    · simp [Value.cells] at hcs
      obtain ⟨rfl, rfl, rfl⟩ := hcs
      exact ⟨fun h => absurd h (by omega), by omega⟩
    · simp [Value.cells] at hcs
      obtain ⟨rfl, rfl, rfl⟩ := hcs
      exact ⟨bytes_of hl (by simpa using hz) hcell hwz, by unfold maxLen at hm; omega⟩
  clear hA0 hval0
  refine (walk a0 len0 cap0 W hB hM).mono fun e W' ⟨he, bel⟩ => ?_
  subst he
  exact ⟨_, rfl, _, _, _, [], _, [], hW', trodAll_mk1 (shut_bool Try.underlying4 _), (trodAll_cons_mk (Below.trod laidOut (by kernel_rfl) (of_decide_eq_true (by kernel_rfl)) k0 bel lt0) trodAll_mk0), rfl, bel.frame _, fun h => by cases h⟩

theorem over : Rows.fnIsLatinRow.holds Try.pinned (OpenSpec.ofChange Rows.fnIsLatinSpec) :=
  OpenClaim.holds_of_wide 7 Try.f7 rfl rfl rfl rfl rfl rfl rfl ⟨rfl, rfl, rfl, rfl, rfl⟩ rfl rfl rfl rfl rfl (by kernel_rfl) Try.func7 (by kernel_rfl)
    (of_decide_eq_true (by kernel_rfl)) (by unfold Func.isWrapper; first | (rw [if_pos (by decide +kernel)]; kernel_rfl) | (rw [if_neg (by decide +kernel)]; exact ⟨rfl, rfl⟩))
    (fun os started H enc _ => lifted os started H enc)

theorem proved : Rows.FnIsLatinSaid := over
#print axioms proved
end Go.Proofs.Ytnhmacmpobkdoaa.fnIsLatin
