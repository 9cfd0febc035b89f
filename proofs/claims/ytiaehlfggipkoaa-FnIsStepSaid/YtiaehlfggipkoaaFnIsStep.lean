/- FnIsStep: for every input the law returns true, and what came in is as it was. No conditions. -/
import Derived.Test.YtiaehlfggipkoaaLawL
import Derived.Test.YtiaehlfggipkoaaPlainD
import Derived.Test.YtiaehlfggipkoaaDrawH
import Derived.Test.YtiaehlfggipkoaaRows
import Derived.Deep.RegionHeld3
import Derived.Deep.RegionWith
import Derived.ProofKit
import Derived.OpenShut
import Derived.ShutString
import Derived.ChangeOld
namespace Go.Proofs.Ytiaehlfggipkoaa.fnIsStep
open Go.ChangeShapes Go.WideShapes Go.ChangeAt Go.RowKit
set_option linter.unusedVariables false

set_option maxHeartbeats 8000000 in
set_option maxRecDepth 100000 in
theorem walk (A : Option Addr) (n c : Nat) (w : World) (hA : RdB w w.heap.size A n) (hm : n ≤ 9223372036854775807) :
    Calls Try.prog 11 #[.slice A n c] w fun e w' => e = .returned (.bool true) ∧ Below w.heap.size w w' := by
  rcases Nat.lt_or_ge 1048576 n with hn | hn
  · have hnz : (1048576 : Int) < (n : Int) := by omega
    go_enter Try.func11, Try.ntmps11
    go_wp2
    go_ret
    exact ⟨rfl, Below.refl _ _⟩
  have hnz : ¬ ((1048576 : Int) < (n : Int)) := by omega
  go_enter Try.func11, Try.ntmps11
  have HLE := Lib.hid (letter_any w)
  go_wp2_with fail
  go_at_call 20
  refine HLE.out.mono ?_
  rintro e wa ⟨Al, cl, rfl, hRl, hbl0⟩
  have HLI := Lib.hid (letterIs_any Al cl wa hRl)
  go_wp2_with fail
  go_at_call 17
  refine HLI.out.mono ?_
  rintro e wl ⟨rfl, hbl1⟩
  have hbl := hbl0.trans (hbl1.mono hbl0.size)
  have hAl : RdB wl wl.heap.size A n := (hA.keep fun p hp => hbl.cell hp).more hbl.size
  clear HLE HLI hbl0 hbl1 hRl
  have HDR := Lib.hid (drawRange_any A n c wl hn hAl)
  go_wp2_with fail
  go_at_call 22
  refine HDR.out.mono ?_
  rintro e w1 ⟨A16, c16, A32, c32, a, b, tn, r, k, rfl, hkle, hT, hr0, hr1, hb1⟩
  clear HDR
  have hb0w := hbl.trans (hb1.mono hbl.size)
  have hal := (Below.refl w1.heap.size w1).alloc (Nat.le_refl _) (.cells #[.slice A16 a.length c16, .slice A32 b.length c32, .int .i64 tn] 26)
  have hnb := Bk.new w1 26 #[.slice A16 a.length c16, .slice A32 b.length c32, .int .i64 tn]
  have ra0 := hT.rd16.to hal
  have rb0 := hT.rd32.to hal
  have la : a.length ≤ 40 := hT.2.2.2.2.1
  have lb : b.length ≤ 40 := hT.2.2.2.2.2
  have hbW := hb0w.trans (hal.mono hb0w.size)
  have hszW : (w1.alloc (.cells #[.slice A16 a.length c16, .slice A32 b.length c32, .int .i64 tn] 26)).heap.size = w1.heap.size + 1 := by simp
  go_wp2_with fail
  generalize hW : w1.alloc (.cells #[.slice A16 a.length c16, .slice A32 b.length c32, .int .i64 tn] 26) = W at *
  have HW := Lib.hid hW; clear hW hb0w hT hb1 hal hbl
  have hsz0 : w1.heap.size < W.heap.size := by omega
  have keepS : ∀ w', Below W.heap.size W w' → w'.cell? ⟨w1.heap.size, 0, none⟩ = some (.slice A16 a.length c16) ∧ w'.cell? ⟨w1.heap.size, 1, none⟩ = some (.slice A32 b.length c32) ∧ w'.cell? ⟨w1.heap.size, 2, none⟩ = some (.int .i64 tn) ∧ Below W.heap.size W w' := fun w' h => by
    have hb := hnb.below h hsz0
    exact ⟨by rw [hb.cell]; rfl, by rw [hb.cell]; rfl, by rw [hb.cell]; rfl, h⟩
  have KS := Lib.hid keepS; clear keepS hnb hszW
  have hW0 : Below W.heap.size W W := Below.refl _ _
  have HG := Lib.hid (good_any A16 A32 c16 c32 a b tn W (by omega) (by omega) ra0 rb0)
  go_at_call 16
  refine HG.out.mono ?_
  rintro e wg ⟨rfl, hq⟩
  clear HG
  cases h1 : goodB ⟨a, b, tn⟩
  · have hfin := hbW.trans (hq.mono hbW.size)
    go_wp2
    go_ret
    exact ⟨rfl, hfin⟩
  obtain ⟨v1, v2, td1, td2, hlat⟩ := goodB_true h1
  have HLAT := Lib.hid hlat; have TD1 := Lib.hid td1; have TD2 := Lib.hid td2
  clear hlat td1 td2 h1
  obtain ⟨y0, y1, y2, -⟩ := KS.out wg hq
  by_cases hk : a.length + b.length ≤ k
  · have hkz : (a.length : Int) + (b.length : Int) ≤ (k : Int) := by omega
    have hfin := hbW.trans (hq.mono hbW.size)
    go_wp2
    go_ret
    exact ⟨rfl, hfin⟩
  have hkz : ¬ ((a.length : Int) + (b.length : Int) ≤ (k : Int)) := by omega
  have RA := (ra0.to hq)
  have RB := (rb0.to hq)
  by_cases ka : k < a.length
  · have kaz : (k : Int) < (a.length : Int) := by omega
    obtain ⟨bp, op, xp, rfl, hbp, hxp, cp0, cp1, cp2, dp1, dp2, dp3, dp4, dp5, dp6⟩ := RA.at_ (i := k) (by omega)
    have Hxp := Lib.hid hxp; clear hxp
    have hpp : 0 ≤ xp.hi := by omega
    have HH := hq
    clear RA RB
    by_cases t0 : r < xp.lo
    · have t0b : decide (r < xp.lo) = true := by simp; omega
      have hfin := hbW.trans (HH.mono hbW.size)
      go_wp2
      go_ret
      exact ⟨rfl, hfin⟩
    have t0b : decide (r < xp.lo) = false := by simp; omega
    by_cases t1 : xp.hi < r
    · have t1b : decide (xp.hi < r) = true := by simp; omega
      have hfin := hbW.trans (HH.mono hbW.size)
      go_wp2
      go_ret
      exact ⟨rfl, hfin⟩
    have t1b : decide (xp.hi < r) = false := by simp; omega
    cases hM : isB ⟨a, b, tn⟩ r
    · have HM := Lib.hid hM; clear hM
      have HC4 := Lib.hid (HM.out ▸ implIs_any _ _ c16 c32 a b tn r wg hr0 hr1 v1 v2 (ra0.to HH) (rb0.to HH))
      go_wp2_with fail
      go_at_call 17
      refine HC4.out.mono ?_
      rintro e w4 ⟨rfl, hbn4⟩
      have hq4 := chain (W := W) hbn4 HH
      clear HC4 hbn4
      have hfin := hbW.trans (hq4.mono hbW.size)
      go_wp2
      go_ret
      exact ⟨rfl, hfin⟩
    obtain ⟨s1, s2, s3⟩ := step_mem v1 TD1.out ka Hxp.out (r := r) (by omega) (by omega) ((isB_lower (a := a) (n := tn) v2 (r := r) (by omega)) ▸ hM)
    have S1 : Go.RowKit.Hid (∀ m, r < m → m < r + xp.st → m ≤ xp.hi → isB ⟨a, b, tn⟩ m = false) := Lib.hid fun m m1 m2 m3 => by rw [(isB_lower (a := a) (n := tn) v2 (r := m) (by omega))]; exact s1 m m1 m2 m3
    have S2 : Go.RowKit.Hid (r + xp.st ≤ xp.hi → isB ⟨a, b, tn⟩ (r + xp.st) = true) := Lib.hid fun m1 => by rw [(isB_lower (a := a) (n := tn) v2 (r := (r + xp.st)) (by omega))]; exact s3 m1 dp5
    have S3 := Lib.hid s2; clear s1 s2 s3
    have HM := Lib.hid hM; clear hM
    have HC4 := Lib.hid (HM.out ▸ implIs_any _ _ c16 c32 a b tn r wg hr0 hr1 v1 v2 (ra0.to HH) (rb0.to HH))
    go_wp2_with fail
    go_at_call 17
    refine HC4.out.mono ?_
    rintro e w4 ⟨rfl, hbn4⟩
    have hq4 := chain (W := W) hbn4 HH
    clear HC4 hbn4
    clear y0 y1 y2
    go_wp2_with fail
    go_loopw [10] (fun s wr => ∃ (m : Int), r + 1 ≤ m ∧ m ≤ r + 1000 ∧ s = .int .i64 m ∧ Below W.heap.size W wr) (fun s _ => (r + 1000 - intOf s).toNat)
    case atStart => exact ⟨r + 1, by omega, by omega, rfl, hq4⟩
    case round =>
      obtain ⟨m, hm1, hm2, rfl, hqr⟩ := hrel
      obtain ⟨y0, y1, y2, -⟩ := KS.out wr hqr
      by_cases n0 : m < r + xp.st
      · have n0b : decide (m < r + xp.st) = true := by simp; omega
        by_cases n1 : m ≤ xp.hi
        · have n1b : decide (m ≤ xp.hi) = true := by simp; omega
          by_cases n2 : m < r + 1000
          · have n2b : decide (m < r + 1000) = true := by simp; omega
            have y4 := S1.out m (by omega) (by omega) (by omega)
            have Y4 := Lib.hid y4; clear y4
            have y5 : IntKind.i32.wrap m = m := IntWalk.i32_in _ (by omega)
            have HC5 := Lib.hid (Y4.out ▸ implIs_any _ _ c16 c32 a b tn m wr (by omega) (by omega) v1 v2 (ra0.to hqr) (rb0.to hqr))
            go_wp2_with fail
            go_at_call 17
            refine HC5.out.mono ?_
            rintro e w5 ⟨rfl, hbn5⟩
            have hq5 := chain (W := W) hbn5 hqr
            clear HC5 hbn5
            go_wp2
            go_roundw
            case rel => exact ⟨m + 1, by omega, by omega, by go_num, hq5⟩
            case measure => simp [intOf]; omega
          · have n2b : decide (m < r + 1000) = false := by simp; omega
            by_cases z0 : xp.hi < r + xp.st
            · have z1 : r = xp.hi := S3.out z0
              have z2 : (r == xp.hi) = true := beq_iff_eq.2 z1
              have z3 : decide (xp.hi < r + xp.st) = true := by simp; omega
              have hfin := hbW.trans (hqr.mono hbW.size)
              clear z1
              go_wp2
              go_ret
              exact ⟨rfl, hfin⟩
            have z3 : decide (xp.hi < r + xp.st) = false := by simp; omega
            have z4 := S2.out (by omega)
            have Z4 := Lib.hid z4; clear z4
            have z5 : IntKind.i32.wrap xp.st = xp.st := IntWalk.i32_in _ (by omega)
            have z6 : IntKind.i32.wrap (r + xp.st) = r + xp.st := IntWalk.i32_in _ (by omega)
            have HC5 := Lib.hid (Z4.out ▸ implIs_any _ _ c16 c32 a b tn (r + xp.st) wr (by omega) (by omega) v1 v2 (ra0.to hqr) (rb0.to hqr))
            go_wp2_with fail
            go_at_call 17
            refine HC5.out.mono ?_
            rintro e w5 ⟨rfl, hbn5⟩
            have hq5 := chain (W := W) hbn5 hqr
            clear HC5 hbn5
            have hfin := hbW.trans (hq5.mono hbW.size)
            go_wp2
            go_ret
            exact ⟨rfl, hfin⟩
        · have n1b : decide (m ≤ xp.hi) = false := by simp; omega
          by_cases z0 : xp.hi < r + xp.st
          · have z1 : r = xp.hi := S3.out z0
            have z2 : (r == xp.hi) = true := beq_iff_eq.2 z1
            have z3 : decide (xp.hi < r + xp.st) = true := by simp; omega
            have hfin := hbW.trans (hqr.mono hbW.size)
            clear z1
            go_wp2
            go_ret
            exact ⟨rfl, hfin⟩
          have z3 : decide (xp.hi < r + xp.st) = false := by simp; omega
          have z4 := S2.out (by omega)
          have Z4 := Lib.hid z4; clear z4
          have z5 : IntKind.i32.wrap xp.st = xp.st := IntWalk.i32_in _ (by omega)
          have z6 : IntKind.i32.wrap (r + xp.st) = r + xp.st := IntWalk.i32_in _ (by omega)
          have HC5 := Lib.hid (Z4.out ▸ implIs_any _ _ c16 c32 a b tn (r + xp.st) wr (by omega) (by omega) v1 v2 (ra0.to hqr) (rb0.to hqr))
          go_wp2_with fail
          go_at_call 17
          refine HC5.out.mono ?_
          rintro e w5 ⟨rfl, hbn5⟩
          have hq5 := chain (W := W) hbn5 hqr
          clear HC5 hbn5
          have hfin := hbW.trans (hq5.mono hbW.size)
          go_wp2
          go_ret
          exact ⟨rfl, hfin⟩
      · have n0b : decide (m < r + xp.st) = false := by simp; omega
        by_cases z0 : xp.hi < r + xp.st
        · have z1 : r = xp.hi := S3.out z0
          have z2 : (r == xp.hi) = true := beq_iff_eq.2 z1
          have z3 : decide (xp.hi < r + xp.st) = true := by simp; omega
          have hfin := hbW.trans (hqr.mono hbW.size)
          clear z1
          go_wp2
          go_ret
          exact ⟨rfl, hfin⟩
        have z3 : decide (xp.hi < r + xp.st) = false := by simp; omega
        have z4 := S2.out (by omega)
        have Z4 := Lib.hid z4; clear z4
        have z5 : IntKind.i32.wrap xp.st = xp.st := IntWalk.i32_in _ (by omega)
        have z6 : IntKind.i32.wrap (r + xp.st) = r + xp.st := IntWalk.i32_in _ (by omega)
        have HC5 := Lib.hid (Z4.out ▸ implIs_any _ _ c16 c32 a b tn (r + xp.st) wr (by omega) (by omega) v1 v2 (ra0.to hqr) (rb0.to hqr))
        go_wp2_with fail
        go_at_call 17
        refine HC5.out.mono ?_
        rintro e w5 ⟨rfl, hbn5⟩
        have hq5 := chain (W := W) hbn5 hqr
        clear HC5 hbn5
        have hfin := hbW.trans (hq5.mono hbW.size)
        go_wp2
        go_ret
        exact ⟨rfl, hfin⟩
  have kaz : ¬ ((k : Int) < (a.length : Int)) := by omega
  obtain ⟨bp, op, xp, rfl, hbp, hxp, cp0, cp1, cp2, dp1, dp2, dp3, dp4, dp5, dp6⟩ := RB.at_ (i := k - a.length) (by omega)
  have Hxp := Lib.hid hxp; clear hxp
  have hlow : 65536 ≤ xp.lo := by
    have h2 := (v2 (k - a.length) (by omega)).2.2.1
    rw [Hxp.out] at h2
    omega
  have hhigh : xp.hi ≤ 1114111 := by
    have h2 := (v2 (k - a.length) (by omega)).2.2.2.1
    rw [Hxp.out] at h2
    omega
  have HH := hq.alloc hq.size (.cells #[.int .u32 xp.lo, .int .u32 xp.hi, .int .u32 xp.st] 37)
  have hszg : w1.heap.size < wg.heap.size := by have := hq.size; omega
  clear y0 y1 y2
  obtain ⟨y0, y1, y2, -⟩ := KS.out wg hq
  obtain ⟨u0, u1, u2, -⟩ := KS.out _ HH
  clear RA RB
  by_cases t0 : r < xp.lo
  · have t0b : decide (r < xp.lo) = true := by simp; omega
    have hfin := hbW.trans (HH.mono hbW.size)
    go_wp2
    go_ret
    exact ⟨rfl, hfin⟩
  have t0b : decide (r < xp.lo) = false := by simp; omega
  by_cases t1 : xp.hi < r
  · have t1b : decide (xp.hi < r) = true := by simp; omega
    have hfin := hbW.trans (HH.mono hbW.size)
    go_wp2
    go_ret
    exact ⟨rfl, hfin⟩
  have t1b : decide (xp.hi < r) = false := by simp; omega
  cases hM : isB ⟨a, b, tn⟩ r
  · have HM := Lib.hid hM; clear hM
    have HC4 := Lib.hid (HM.out ▸ implIs_any _ _ c16 c32 a b tn r (wg.alloc (.cells #[.int .u32 xp.lo, .int .u32 xp.hi, .int .u32 xp.st] 37)) hr0 hr1 v1 v2 (ra0.to HH) (rb0.to HH))
    go_wp2_with fail
    go_at_call 17
    refine HC4.out.mono ?_
    rintro e w4 ⟨rfl, hbn4⟩
    have hq4 := chain (W := W) hbn4 HH
    clear HC4 hbn4
    have hfin := hbW.trans (hq4.mono hbW.size)
    go_wp2
    go_ret
    exact ⟨rfl, hfin⟩
  obtain ⟨s1, s2, s3⟩ := step_mem v2 TD2.out (by omega) Hxp.out (r := r) (by omega) (by omega) ((isB_upper (b := b) (n := tn) v1 (r := r) (by omega)) ▸ hM)
  have S1 : Go.RowKit.Hid (∀ m, r < m → m < r + xp.st → m ≤ xp.hi → isB ⟨a, b, tn⟩ m = false) := Lib.hid fun m m1 m2 m3 => by rw [(isB_upper (b := b) (n := tn) v1 (r := m) (by omega))]; exact s1 m m1 m2 m3
  have S2 : Go.RowKit.Hid (r + xp.st ≤ xp.hi → isB ⟨a, b, tn⟩ (r + xp.st) = true) := Lib.hid fun m1 => by rw [(isB_upper (b := b) (n := tn) v1 (r := (r + xp.st)) (by omega))]; exact s3 m1 dp5
  have S3 := Lib.hid s2; clear s1 s2 s3
  have HM := Lib.hid hM; clear hM
  have HC4 := Lib.hid (HM.out ▸ implIs_any _ _ c16 c32 a b tn r (wg.alloc (.cells #[.int .u32 xp.lo, .int .u32 xp.hi, .int .u32 xp.st] 37)) hr0 hr1 v1 v2 (ra0.to HH) (rb0.to HH))
  go_wp2_with fail
  go_at_call 17
  refine HC4.out.mono ?_
  rintro e w4 ⟨rfl, hbn4⟩
  have hq4 := chain (W := W) hbn4 HH
  clear HC4 hbn4
  clear y0 y1 y2
  go_wp2_with fail
  go_loopw [10] (fun s wr => ∃ (m : Int), r + 1 ≤ m ∧ m ≤ r + 1000 ∧ s = .int .i64 m ∧ Below W.heap.size W wr) (fun s _ => (r + 1000 - intOf s).toNat)
  case atStart => exact ⟨r + 1, by omega, by omega, rfl, hq4⟩
  case round =>
    obtain ⟨m, hm1, hm2, rfl, hqr⟩ := hrel
    obtain ⟨y0, y1, y2, -⟩ := KS.out wr hqr
    by_cases n0 : m < r + xp.st
    · have n0b : decide (m < r + xp.st) = true := by simp; omega
      by_cases n1 : m ≤ xp.hi
      · have n1b : decide (m ≤ xp.hi) = true := by simp; omega
        by_cases n2 : m < r + 1000
        · have n2b : decide (m < r + 1000) = true := by simp; omega
          have y4 := S1.out m (by omega) (by omega) (by omega)
          have Y4 := Lib.hid y4; clear y4
          have y5 : IntKind.i32.wrap m = m := IntWalk.i32_in _ (by omega)
          have HC5 := Lib.hid (Y4.out ▸ implIs_any _ _ c16 c32 a b tn m wr (by omega) (by omega) v1 v2 (ra0.to hqr) (rb0.to hqr))
          go_wp2_with fail
          go_at_call 17
          refine HC5.out.mono ?_
          rintro e w5 ⟨rfl, hbn5⟩
          have hq5 := chain (W := W) hbn5 hqr
          clear HC5 hbn5
          go_wp2
          go_roundw
          case rel => exact ⟨m + 1, by omega, by omega, by go_num, hq5⟩
          case measure => simp [intOf]; omega
        · have n2b : decide (m < r + 1000) = false := by simp; omega
          by_cases z0 : xp.hi < r + xp.st
          · have z1 : r = xp.hi := S3.out z0
            have z2 : (r == xp.hi) = true := beq_iff_eq.2 z1
            have z3 : decide (xp.hi < r + xp.st) = true := by simp; omega
            have hfin := hbW.trans (hqr.mono hbW.size)
            clear z1
            go_wp2
            go_ret
            exact ⟨rfl, hfin⟩
          have z3 : decide (xp.hi < r + xp.st) = false := by simp; omega
          have z4 := S2.out (by omega)
          have Z4 := Lib.hid z4; clear z4
          have z5 : IntKind.i32.wrap xp.st = xp.st := IntWalk.i32_in _ (by omega)
          have z6 : IntKind.i32.wrap (r + xp.st) = r + xp.st := IntWalk.i32_in _ (by omega)
          have HC5 := Lib.hid (Z4.out ▸ implIs_any _ _ c16 c32 a b tn (r + xp.st) wr (by omega) (by omega) v1 v2 (ra0.to hqr) (rb0.to hqr))
          go_wp2_with fail
          go_at_call 17
          refine HC5.out.mono ?_
          rintro e w5 ⟨rfl, hbn5⟩
          have hq5 := chain (W := W) hbn5 hqr
          clear HC5 hbn5
          have hfin := hbW.trans (hq5.mono hbW.size)
          go_wp2
          go_ret
          exact ⟨rfl, hfin⟩
      · have n1b : decide (m ≤ xp.hi) = false := by simp; omega
        by_cases z0 : xp.hi < r + xp.st
        · have z1 : r = xp.hi := S3.out z0
          have z2 : (r == xp.hi) = true := beq_iff_eq.2 z1
          have z3 : decide (xp.hi < r + xp.st) = true := by simp; omega
          have hfin := hbW.trans (hqr.mono hbW.size)
          clear z1
          go_wp2
          go_ret
          exact ⟨rfl, hfin⟩
        have z3 : decide (xp.hi < r + xp.st) = false := by simp; omega
        have z4 := S2.out (by omega)
        have Z4 := Lib.hid z4; clear z4
        have z5 : IntKind.i32.wrap xp.st = xp.st := IntWalk.i32_in _ (by omega)
        have z6 : IntKind.i32.wrap (r + xp.st) = r + xp.st := IntWalk.i32_in _ (by omega)
        have HC5 := Lib.hid (Z4.out ▸ implIs_any _ _ c16 c32 a b tn (r + xp.st) wr (by omega) (by omega) v1 v2 (ra0.to hqr) (rb0.to hqr))
        go_wp2_with fail
        go_at_call 17
        refine HC5.out.mono ?_
        rintro e w5 ⟨rfl, hbn5⟩
        have hq5 := chain (W := W) hbn5 hqr
        clear HC5 hbn5
        have hfin := hbW.trans (hq5.mono hbW.size)
        go_wp2
        go_ret
        exact ⟨rfl, hfin⟩
    · have n0b : decide (m < r + xp.st) = false := by simp; omega
      by_cases z0 : xp.hi < r + xp.st
      · have z1 : r = xp.hi := S3.out z0
        have z2 : (r == xp.hi) = true := beq_iff_eq.2 z1
        have z3 : decide (xp.hi < r + xp.st) = true := by simp; omega
        have hfin := hbW.trans (hqr.mono hbW.size)
        clear z1
        go_wp2
        go_ret
        exact ⟨rfl, hfin⟩
      have z3 : decide (xp.hi < r + xp.st) = false := by simp; omega
      have z4 := S2.out (by omega)
      have Z4 := Lib.hid z4; clear z4
      have z5 : IntKind.i32.wrap xp.st = xp.st := IntWalk.i32_in _ (by omega)
      have z6 : IntKind.i32.wrap (r + xp.st) = r + xp.st := IntWalk.i32_in _ (by omega)
      have HC5 := Lib.hid (Z4.out ▸ implIs_any _ _ c16 c32 a b tn (r + xp.st) wr (by omega) (by omega) v1 v2 (ra0.to hqr) (rb0.to hqr))
      go_wp2_with fail
      go_at_call 17
      refine HC5.out.mono ?_
      rintro e w5 ⟨rfl, hbn5⟩
      have hq5 := chain (W := W) hbn5 hqr
      clear HC5 hbn5
      have hfin := hbW.trans (hq5.mono hbW.size)
      go_wp2
      go_ret
      exact ⟨rfl, hfin⟩

theorem own : ownKnob Try.prog.godebug = none := by kernel_rfl
theorem laidOut : laidOutB Try.prog = true := by kernel_rfl

set_option maxRecDepth 100000 in
theorem lifted (os : Os) (started : os.Started) (H : Type) (enc : TypeId × Value → H) :
    ReturnsInHanded {} Try.checked os 11 .any (Rows.fnIsStepSpec.pre6 enc Try.prog Try.f11 Rows.fnIsStepRow.domain false) (Rows.fnIsStepSpec.post enc Try.prog Try.f11 false true false false) := by
  refine returnsInHanded_of_change (C := Try.checked) own started (by kernel_rfl) Try.func11
    (ChangeSpec.witness6 (enc := enc) (C := Try.checked) false ⟨#[], #[.slice none 0 0], []⟩ 8 (by kernel_rfl) (by kernel_rfl) (by kernel_rfl) (by kernel_rfl)) ?_
  intro W base args ds gs before hval0 hW hcnd _
  have hval : ∀ (j : Nat) t v, Try.f11.params[j]? = some t → args[j]? = some v → Value.okWide Try.prog W .any base t v := hval0
  have hW' := hW
  obtain ⟨p, q, hA0, hV, rfl, hfz, hnd⟩ := hW
  have hA : DataW.TrodAll enc Try.prog W 0 (fun _ => true) true Try.f11.params.toList args.toList ds p := hA0
  rw [Try.params11] at hA hval
  obtain ⟨v0, vs0, d0, ds0, p0, q0, hargs, rfl, rfl, h0, r0⟩ := trodAll_cons hA
  obtain ⟨rfl, rfl, rfl⟩ := trodAll_nil r0
  obtain rfl : args = #[v0] := by cases args; simp_all
  obtain ⟨rfl, rfl⟩ := trodVars_none hV
  obtain ⟨a0, len0, cap0, rfl⟩ := okWide_slice Try.underlying22 (hval 0 22 v0 rfl rfl)
  have k0 := h0
  have lt0 : ∀ x ∈ p0, x.block < W.heap.size := by obtain ⟨m, hm⟩ := k0; exact DataW.trod_lt m _ _ _ hm
  obtain ⟨hB, hM⟩ : RdB W W.heap.size a0 len0 ∧ len0 ≤ 9223372036854775807 := by
    obtain ⟨fuel, hf⟩ := h0
    rcases open_ints Try.underlying22 Try.underlying5 (by kernel_rfl) hf with ⟨hcs, _⟩ | ⟨x, l, c, zs, hcs, _, hl, hm, hz, _, hcell, hwz⟩
    · simp [Value.cells] at hcs
      obtain ⟨rfl, rfl, rfl⟩ := hcs
      exact ⟨fun h => absurd h (by omega), by omega⟩
    · simp [Value.cells] at hcs
      obtain ⟨rfl, rfl, rfl⟩ := hcs
      exact ⟨bytes_of hl (by simpa using hz) hcell hwz, by unfold maxLen at hm; omega⟩
  clear hA0 hval0
  refine (walk a0 len0 cap0 W hB hM).mono fun e W' ⟨he, bel⟩ => ?_
  subst he
  exact ⟨_, rfl, _, _, _, [], _, [], hW', trodAll_mk1 (shut_bool Try.underlying4 _), (trodAll_cons_mk (Below.trod laidOut (by kernel_rfl) (of_decide_eq_true (by kernel_rfl)) k0 bel lt0) trodAll_mk0), rfl, bel.frame _, fun h => by cases h⟩

theorem over : Rows.fnIsStepRow.holds Try.pinned (OpenSpec.ofChange Rows.fnIsStepSpec) :=
  OpenClaim.holds_of_wide 11 Try.f11 rfl rfl rfl rfl rfl rfl rfl ⟨rfl, rfl, rfl, rfl, rfl⟩ rfl rfl rfl rfl rfl (by kernel_rfl) Try.func11 (by kernel_rfl)
    (of_decide_eq_true (by kernel_rfl)) (by unfold Func.isWrapper; first | (rw [if_pos (by decide +kernel)]; kernel_rfl) | (rw [if_neg (by decide +kernel)]; exact ⟨rfl, rfl⟩))
    (fun os started H enc _ => lifted os started H enc)

theorem proved : Rows.FnIsStepSaid := over
#print axioms proved
end Go.Proofs.Ytiaehlfggipkoaa.fnIsStep
