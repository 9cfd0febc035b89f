/- FnIsBetween: for every input the law returns true, and what came in is as it was. No conditions. -/
import Derived.Test.YtiaehlfggipkoaaLawL
import Derived.Test.YtiaehlfggipkoaaPlainC
import Derived.Test.YtiaehlfggipkoaaDrawH
import Derived.Test.YtiaehlfggipkoaaRows
import Derived.Deep.RegionHeld3
import Derived.Deep.RegionWith
import Derived.ProofKit
import Derived.OpenShut
import Derived.ShutString
import Derived.ChangeOld
namespace Go.Proofs.Ytiaehlfggipkoaa.fnIsBetween
open Go.ChangeShapes Go.WideShapes Go.ChangeAt Go.RowKit
set_option linter.unusedVariables false

set_option maxHeartbeats 8000000 in
set_option maxRecDepth 100000 in
theorem walk (A : Option Addr) (n c : Nat) (w : World) (hA : RdB w w.heap.size A n) (hm : n ≤ 9223372036854775807) :
    Calls Try.prog 10 #[.slice A n c] w fun e w' => e = .returned (.bool true) ∧ Below w.heap.size w w' := by
  rcases Nat.lt_or_ge 1048576 n with hn | hn
  · have hnz : (1048576 : Int) < (n : Int) := by omega
    go_enter Try.func10, Try.ntmps10
    go_wp2
    go_ret
    exact ⟨rfl, Below.refl _ _⟩
  have hnz : ¬ ((1048576 : Int) < (n : Int)) := by omega
  go_enter Try.func10, Try.ntmps10
  have HLE := Lib.hid (letter_any w)
  go_wp2_with fail
  go_at_call 20
  refine HLE.out.mono ?_
  rintro e wa ⟨Al, cl, rfl, hRl, hbl0⟩
  have HLI := Lib.hid (letterIs_any Al cl wa hRl)
  go_wp2_with fail
  go_at_call 17
  refine HLI.out.mono ?_
  rintro e wl ⟨rfl, hbl1⟩
  have hbl := hbl0.trans (hbl1.mono hbl0.size)
  have hAl : RdB wl wl.heap.size A n := (hA.keep fun p hp => hbl.cell hp).more hbl.size
  clear HLE HLI hbl0 hbl1 hRl
  have HDR := Lib.hid (drawRange_any A n c wl hn hAl)
  go_wp2_with fail
  go_at_call 22
  refine HDR.out.mono ?_
  rintro e w1 ⟨A16, c16, A32, c32, a, b, tn, r, k, rfl, hkle, hT, hr0, hr1, hb1⟩
  clear HDR
  have hb0w := hbl.trans (hb1.mono hbl.size)
  have hal := (Below.refl w1.heap.size w1).alloc (Nat.le_refl _) (.cells #[.slice A16 a.length c16, .slice A32 b.length c32, .int .i64 tn] 26)
  have hnb := Bk.new w1 26 #[.slice A16 a.length c16, .slice A32 b.length c32, .int .i64 tn]
  have ra0 := hT.rd16.to hal
  have rb0 := hT.rd32.to hal
  have la : a.length ≤ 40 := hT.2.2.2.2.1
  have lb : b.length ≤ 40 := hT.2.2.2.2.2
  have hbW := hb0w.trans (hal.mono hb0w.size)
  have hszW : (w1.alloc (.cells #[.slice A16 a.length c16, .slice A32 b.length c32, .int .i64 tn] 26)).heap.size = w1.heap.size + 1 := by simp
  go_wp2_with fail
  generalize hW : w1.alloc (.cells #[.slice A16 a.length c16, .slice A32 b.length c32, .int .i64 tn] 26) = W at *
  have HW := Lib.hid hW; clear hW hb0w hT hb1 hal hbl
  have hsz0 : w1.heap.size < W.heap.size := by omega
  have keepS : ∀ w', Below W.heap.size W w' → w'.cell? ⟨w1.heap.size, 0, none⟩ = some (.slice A16 a.length c16) ∧ w'.cell? ⟨w1.heap.size, 1, none⟩ = some (.slice A32 b.length c32) ∧ w'.cell? ⟨w1.heap.size, 2, none⟩ = some (.int .i64 tn) ∧ Below W.heap.size W w' := fun w' h => by
    have hb := hnb.below h hsz0
    exact ⟨by rw [hb.cell]; rfl, by rw [hb.cell]; rfl, by rw [hb.cell]; rfl, h⟩
  have KS := Lib.hid keepS; clear keepS hnb hszW
  have hW0 : Below W.heap.size W W := Below.refl _ _
  have HG := Lib.hid (good_any A16 A32 c16 c32 a b tn W (by omega) (by omega) ra0 rb0)
  go_at_call 16
  refine HG.out.mono ?_
  rintro e wg ⟨rfl, hq⟩
  clear HG
  cases h1 : goodB ⟨a, b, tn⟩
  · have hfin := hbW.trans (hq.mono hbW.size)
    go_wp2
    go_ret
    exact ⟨rfl, hfin⟩
  obtain ⟨v1, v2, td1, td2, hlat⟩ := goodB_true h1
  have HLAT := Lib.hid hlat; have TD1 := Lib.hid td1; have TD2 := Lib.hid td2
  clear hlat td1 td2 h1
  obtain ⟨y0, y1, y2, -⟩ := KS.out wg hq
  by_cases hk : a.length + b.length ≤ k
  · have hkz : (a.length : Int) + (b.length : Int) ≤ (k : Int) := by omega
    have hfin := hbW.trans (hq.mono hbW.size)
    go_wp2
    go_ret
    exact ⟨rfl, hfin⟩
  have hkz : ¬ ((a.length : Int) + (b.length : Int) ≤ (k : Int)) := by omega
  have RA := (ra0.to hq)
  have RB := (rb0.to hq)
  by_cases ka : k < a.length
  · have kaz : (k : Int) < (a.length : Int) := by omega
    obtain ⟨bp, op, xp, rfl, hbp, hxp, cp0, cp1, cp2, dp1, dp2, dp3, dp4, dp5, dp6⟩ := RA.at_ (i := k) (by omega)
    have Hxp := Lib.hid hxp; clear hxp
    have hp1 : 0 ≤ xp.hi := by omega
    by_cases kb : k + 1 < a.length
    · have kbz : (k : Int) + 1 < (a.length : Int) := by omega
      obtain ⟨bq, oq, xq, hAq, hbq, hxq, cq0, cq1, cq2, dq1, dq2, dq3, dq4, dq5, dq6⟩ := RA.at_ (i := k + 1) (by omega)
      injection hAq with hAq
      injection hAq with fq1 fq2
      subst fq1 fq2
      have Hxq := Lib.hid hxq; clear hxq
      clear RA RB
      by_cases t0 : r ≤ xp.hi
      · have t0b : decide (r ≤ xp.hi) = true := by simp; omega
        have hfin := hbW.trans (hq.mono hbW.size)
        go_wp2
        go_ret
        exact ⟨rfl, hfin⟩
      have t0b : decide (r ≤ xp.hi) = false := by simp; omega
      by_cases t1 : xq.lo ≤ r
      · have t1b : decide (xq.lo ≤ r) = true := by simp; omega
        have hfin := hbW.trans (hq.mono hbW.size)
        go_wp2
        go_ret
        exact ⟨rfl, hfin⟩
      have t1b : decide (xq.lo ≤ r) = false := by simp; omega
      have hM : isB ⟨a, b, tn⟩ r = false := by
        have h1 : memB a r = false := mem_between v1 ka (by rw [Hxp.out]; omega) (fun _ => by rw [Hxq.out]; omega)
        have h2 : memB b r = false := mem_neg v2 (by omega)
        simp [isB, h1, h2]
      have HC4 := Lib.hid (hM ▸ implIs_any _ _ c16 c32 a b tn r wg hr0 hr1 v1 v2 (ra0.to hq) (rb0.to hq))
      go_wp2_with fail
      go_at_call 17
      refine HC4.out.mono ?_
      rintro e w4 ⟨rfl, hbn4⟩
      have hq4 := chain (W := W) hbn4 hq
      clear HC4 hbn4
      have hfin := hbW.trans (hq4.mono hbW.size)
      clear hM
      go_wp2
      go_ret
      exact ⟨rfl, hfin⟩
    have kbz : ¬ ((k : Int) + 1 < (a.length : Int)) := by omega
    by_cases kc : k + 1 < a.length + b.length
    · have kcz : (k : Int) + 1 < (a.length : Int) + (b.length : Int) := by omega
      obtain ⟨bq, oq, xq, rfl, hbq, hxq, cq0, cq1, cq2, dq1, dq2, dq3, dq4, dq5, dq6⟩ := RB.at_ (i := k + 1 - a.length) (by omega)
      have Hxq := Lib.hid hxq; clear hxq
      clear RA RB
      by_cases t0 : r ≤ xp.hi
      · have t0b : decide (r ≤ xp.hi) = true := by simp; omega
        have hfin := hbW.trans (hq.mono hbW.size)
        go_wp2
        go_ret
        exact ⟨rfl, hfin⟩
      have t0b : decide (r ≤ xp.hi) = false := by simp; omega
      by_cases t1 : xq.lo ≤ r
      · have t1b : decide (xq.lo ≤ r) = true := by simp; omega
        have hfin := hbW.trans (hq.mono hbW.size)
        go_wp2
        go_ret
        exact ⟨rfl, hfin⟩
      have t1b : decide (xq.lo ≤ r) = false := by simp; omega
      have hM : isB ⟨a, b, tn⟩ r = false := by
        have h1 : memB a r = false := mem_last v1 (by omega) (by rw [show a.length - 1 = k from by omega, Hxp.out]; omega)
        have h2 : memB b r = false := mem_first v2 (by rw [show 0 = k + 1 - a.length from by omega, Hxq.out]; omega)
        simp [isB, h1, h2]
      have HC4 := Lib.hid (hM ▸ implIs_any _ _ c16 c32 a b tn r wg hr0 hr1 v1 v2 (ra0.to hq) (rb0.to hq))
      go_wp2_with fail
      go_at_call 17
      refine HC4.out.mono ?_
      rintro e w4 ⟨rfl, hbn4⟩
      have hq4 := chain (W := W) hbn4 hq
      clear HC4 hbn4
      have hfin := hbW.trans (hq4.mono hbW.size)
      clear hM
      go_wp2
      go_ret
      exact ⟨rfl, hfin⟩
    have kcz : ¬ ((k : Int) + 1 < (a.length : Int) + (b.length : Int)) := by omega
    clear RA RB
    by_cases t0 : r ≤ xp.hi
    · have t0b : decide (r ≤ xp.hi) = true := by simp; omega
      have hfin := hbW.trans (hq.mono hbW.size)
      go_wp2
      go_ret
      exact ⟨rfl, hfin⟩
    have t0b : decide (r ≤ xp.hi) = false := by simp; omega
    by_cases t1 : 1114112 ≤ r
    · have t1b : decide (1114112 ≤ r) = true := by simp; omega
      have hfin := hbW.trans (hq.mono hbW.size)
      go_wp2
      go_ret
      exact ⟨rfl, hfin⟩
    have t1b : decide (1114112 ≤ r) = false := by simp; omega
    have hM : isB ⟨a, b, tn⟩ r = false := by
      have h1 : memB a r = false := mem_last v1 (by omega) (by rw [show a.length - 1 = k from by omega, Hxp.out]; omega)
      have h2 : memB b r = false := mem_empty (by omega) _
      simp [isB, h1, h2]
    have HC4 := Lib.hid (hM ▸ implIs_any _ _ c16 c32 a b tn r wg hr0 hr1 v1 v2 (ra0.to hq) (rb0.to hq))
    go_wp2_with fail
    go_at_call 17
    refine HC4.out.mono ?_
    rintro e w4 ⟨rfl, hbn4⟩
    have hq4 := chain (W := W) hbn4 hq
    clear HC4 hbn4
    have hfin := hbW.trans (hq4.mono hbW.size)
    clear hM
    go_wp2
    go_ret
    exact ⟨rfl, hfin⟩
  have kaz : ¬ ((k : Int) < (a.length : Int)) := by omega
  have kbz : ¬ ((k : Int) + 1 < (a.length : Int)) := by omega
  obtain ⟨bp, op, xp, rfl, hbp, hxp, cp0, cp1, cp2, dp1, dp2, dp3, dp4, dp5, dp6⟩ := RB.at_ (i := k - a.length) (by omega)
  have Hxp := Lib.hid hxp; clear hxp
  have hlow : 65536 ≤ xp.hi := by
    have h1 := (v2 (k - a.length) (by omega)).2.1
    have h2 := (v2 (k - a.length) (by omega)).2.2.1
    rw [Hxp.out] at h1 h2
    omega
  by_cases kc : k + 1 < a.length + b.length
  · have kcz : (k : Int) + 1 < (a.length : Int) + (b.length : Int) := by omega
    obtain ⟨bq, oq, xq, hAq, hbq, hxq, cq0, cq1, cq2, dq1, dq2, dq3, dq4, dq5, dq6⟩ := RB.at_ (i := k + 1 - a.length) (by omega)
    injection hAq with hAq
    injection hAq with fq1 fq2
    subst fq1 fq2
    have Hxq := Lib.hid hxq; clear hxq
    clear RA RB
    by_cases t0 : r ≤ xp.hi
    · have t0b : decide (r ≤ xp.hi) = true := by simp; omega
      have hfin := hbW.trans (hq.mono hbW.size)
      go_wp2
      go_ret
      exact ⟨rfl, hfin⟩
    have t0b : decide (r ≤ xp.hi) = false := by simp; omega
    by_cases t1 : xq.lo ≤ r
    · have t1b : decide (xq.lo ≤ r) = true := by simp; omega
      have hfin := hbW.trans (hq.mono hbW.size)
      go_wp2
      go_ret
      exact ⟨rfl, hfin⟩
    have t1b : decide (xq.lo ≤ r) = false := by simp; omega
    have hM : isB ⟨a, b, tn⟩ r = false := by
      have h1 : memB a r = false := mem_over v1 (by omega)
      have h2 : memB b r = false := mem_between v2 (i := k - a.length) (by omega) (by rw [Hxp.out]; omega) (fun _ => by rw [show k - a.length + 1 = k + 1 - a.length from by omega, Hxq.out]; omega)
      simp [isB, h1, h2]
    have HC4 := Lib.hid (hM ▸ implIs_any _ _ c16 c32 a b tn r wg hr0 hr1 v1 v2 (ra0.to hq) (rb0.to hq))
    go_wp2_with fail
    go_at_call 17
    refine HC4.out.mono ?_
    rintro e w4 ⟨rfl, hbn4⟩
    have hq4 := chain (W := W) hbn4 hq
    clear HC4 hbn4
    have hfin := hbW.trans (hq4.mono hbW.size)
    clear hM
    go_wp2
    go_ret
    exact ⟨rfl, hfin⟩
  have kcz : ¬ ((k : Int) + 1 < (a.length : Int) + (b.length : Int)) := by omega
  clear RA RB
  by_cases t0 : r ≤ xp.hi
  · have t0b : decide (r ≤ xp.hi) = true := by simp; omega
    have hfin := hbW.trans (hq.mono hbW.size)
    go_wp2
    go_ret
    exact ⟨rfl, hfin⟩
  have t0b : decide (r ≤ xp.hi) = false := by simp; omega
  by_cases t1 : 1114112 ≤ r
  · have t1b : decide (1114112 ≤ r) = true := by simp; omega
    have hfin := hbW.trans (hq.mono hbW.size)
    go_wp2
    go_ret
    exact ⟨rfl, hfin⟩
  have t1b : decide (1114112 ≤ r) = false := by simp; omega
  have hM : isB ⟨a, b, tn⟩ r = false := by
    have h1 : memB a r = false := mem_over v1 (by omega)
    have h2 : memB b r = false := mem_last v2 (by omega) (by rw [show b.length - 1 = k - a.length from by omega, Hxp.out]; omega)
    simp [isB, h1, h2]
  have HC4 := Lib.hid (hM ▸ implIs_any _ _ c16 c32 a b tn r wg hr0 hr1 v1 v2 (ra0.to hq) (rb0.to hq))
  go_wp2_with fail
  go_at_call 17
  refine HC4.out.mono ?_
  rintro e w4 ⟨rfl, hbn4⟩
  have hq4 := chain (W := W) hbn4 hq
  clear HC4 hbn4
  have hfin := hbW.trans (hq4.mono hbW.size)
  clear hM
  go_wp2
  go_ret
  exact ⟨rfl, hfin⟩

theorem own : ownKnob Try.prog.godebug = none := by kernel_rfl
theorem laidOut : laidOutB Try.prog = true := by kernel_rfl

set_option maxRecDepth 100000 in
theorem lifted (os : Os) (started : os.Started) (H : Type) (enc : TypeId × Value → H) :
    ReturnsInHanded {} Try.checked os 10 .any (Rows.fnIsBetweenSpec.pre6 enc Try.prog Try.f10 Rows.fnIsBetweenRow.domain false) (Rows.fnIsBetweenSpec.post enc Try.prog Try.f10 false true false false) := by
  refine returnsInHanded_of_change (C := Try.checked) own started (by kernel_rfl) Try.func10
    (ChangeSpec.witness6 (enc := enc) (C := Try.checked) false ⟨#[], #[.slice none 0 0], []⟩ 8 (by kernel_rfl) (by kernel_rfl) (by kernel_rfl) (by kernel_rfl)) ?_
  intro W base args ds gs before hval0 hW hcnd _
  have hval : ∀ (j : Nat) t v, Try.f10.params[j]? = some t → args[j]? = some v → Value.okWide Try.prog W .any base t v := hval0
  have hW' := hW
  obtain ⟨p, q, hA0, hV, rfl, hfz, hnd⟩ := hW
  have hA : DataW.TrodAll enc Try.prog W 0 (fun _ => true) true Try.f10.params.toList args.toList ds p := hA0
  rw [Try.params10] at hA hval
  obtain ⟨v0, vs0, d0, ds0, p0, q0, hargs, rfl, rfl, h0, r0⟩ := trodAll_cons hA
  obtain ⟨rfl, rfl, rfl⟩ := trodAll_nil r0
  obtain rfl : args = #[v0] := by cases args; simp_all
  obtain ⟨rfl, rfl⟩ := trodVars_none hV
  obtain ⟨a0, len0, cap0, rfl⟩ := okWide_slice Try.underlying22 (hval 0 22 v0 rfl rfl)
  have k0 := h0
  have lt0 : ∀ x ∈ p0, x.block < W.heap.size := by obtain ⟨m, hm⟩ := k0; exact DataW.trod_lt m _ _ _ hm
  obtain ⟨hB, hM⟩ : RdB W W.heap.size a0 len0 ∧ len0 ≤ 9223372036854775807 := by
    obtain ⟨fuel, hf⟩ := h0
    rcases open_ints Try.underlying22 Try.underlying5 (by kernel_rfl) hf with ⟨hcs, _⟩ | ⟨x, l, c, zs, hcs, _, hl, hm, hz, _, hcell, hwz⟩
    · simp [Value.cells] at hcs
      obtain ⟨rfl, rfl, rfl⟩ := hcs
      exact ⟨fun h => absurd h (by omega), by omega⟩
    · simp [Value.cells] at hcs
      obtain ⟨rfl, rfl, rfl⟩ := hcs
      exact ⟨bytes_of hl (by simpa using hz) hcell hwz, by unfold maxLen at hm; omega⟩
  clear hA0 hval0
  refine (walk a0 len0 cap0 W hB hM).mono fun e W' ⟨he, bel⟩ => ?_
  subst he
  exact ⟨_, rfl, _, _, _, [], _, [], hW', trodAll_mk1 (shut_bool Try.underlying4 _), (trodAll_cons_mk (Below.trod laidOut (by kernel_rfl) (of_decide_eq_true (by kernel_rfl)) k0 bel lt0) trodAll_mk0), rfl, bel.frame _, fun h => by cases h⟩

theorem over : Rows.fnIsBetweenRow.holds Try.pinned (OpenSpec.ofChange Rows.fnIsBetweenSpec) :=
  OpenClaim.holds_of_wide 10 Try.f10 rfl rfl rfl rfl rfl rfl rfl ⟨rfl, rfl, rfl, rfl, rfl⟩ rfl rfl rfl rfl rfl (by kernel_rfl) Try.func10 (by kernel_rfl)
    (of_decide_eq_true (by kernel_rfl)) (by unfold Func.isWrapper; first | (rw [if_pos (by decide +kernel)]; kernel_rfl) | (rw [if_neg (by decide +kernel)]; exact ⟨rfl, rfl⟩))
    (fun os started H enc _ => lifted os started H enc)

theorem proved : Rows.FnIsBetweenSaid := over
#print axioms proved
end Go.Proofs.Ytiaehlfggipkoaa.fnIsBetween
