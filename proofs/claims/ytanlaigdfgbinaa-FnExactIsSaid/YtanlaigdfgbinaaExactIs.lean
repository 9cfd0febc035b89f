/- FnExactIs: for every table and every number the law returns true, and what came in is as it was. No conditions. -/
import Derived.Test.YtanlaigdfgbinaaSpecC
import Derived.Test.YtanlaigdfgbinaaImpl
import Derived.Test.YtanlaigdfgbinaaOpen
import Derived.Test.YtanlaigdfgbinaaRows
import Derived.Deep.RegionHeld3
import Derived.Deep.RegionWith
import Derived.ProofKit
import Derived.OpenShut
import Derived.ShutString
import Derived.ChangeOld
namespace Go.Proofs.Ytanlaigdfgbinaa.fnExactIs
open Go.ChangeShapes Go.WideShapes Go.ChangeAt Go.RowKit Go.Joins
set_option linter.unusedVariables false

theorem chain {W W1 w1 : World} (hb1 : Below W1.heap.size W1 w1) (hq : Below W.heap.size W W1) : Below W.heap.size W w1 := hq.trans (hb1.mono hq.size)

set_option maxHeartbeats 2000000 in
set_option maxRecDepth 100000 in
theorem walk (A16 A32 : Option Addr) (c16 c32 : Nat) (a b : List Rg) (n r : Int) (w : World) (hr0 : -2147483648 ≤ r) (hr1 : r ≤ 2147483647) (la : a.length ≤ 9223372036854775807) (lb : b.length ≤ 9223372036854775807)
    (ra : Rd w w.heap.size .u16 65536 A16 a) (rb : Rd w w.heap.size .u32 4294967296 A32 b) :
    Calls Try.prog 3 #[.agg #[.slice A16 a.length c16, .slice A32 b.length c32, .int .i64 n], .int .i32 r] w fun e w' =>
      e = .returned (.bool true) ∧ Below w.heap.size w w' := by
  have hbel0 := (Below.refl w.heap.size w).alloc (Nat.le_refl _) (.cells #[.slice A16 a.length c16, .slice A32 b.length c32, .int .i64 n] 25)
  have hnb := Bk.new w 25 #[.slice A16 a.length c16, .slice A32 b.length c32, .int .i64 n]
  have ra0 := ra.to hbel0
  have rb0 := rb.to hbel0
  have hsz0 : w.heap.size < (w.alloc (.cells #[.slice A16 a.length c16, .slice A32 b.length c32, .int .i64 n] 25)).heap.size := by simp
  have hsz1 : w.heap.size ≤ (w.alloc (.cells #[.slice A16 a.length c16, .slice A32 b.length c32, .int .i64 n] 25)).heap.size := by simp
  clear ra rb
  generalize hW : w.alloc (.cells #[.slice A16 a.length c16, .slice A32 b.length c32, .int .i64 n] 25) = W at *
  have HW := Lib.hid hW; clear hW
  have keepS : ∀ w', Below W.heap.size W w' → w'.cell? ⟨w.heap.size, 0, none⟩ = some (.slice A16 a.length c16) ∧ w'.cell? ⟨w.heap.size, 1, none⟩ = some (.slice A32 b.length c32) ∧ w'.cell? ⟨w.heap.size, 2, none⟩ = some (.int .i64 n) ∧ Below W.heap.size W w' := fun w' h => by
    have hb := hnb.below h hsz0
    exact ⟨by rw [hb.cell]; rfl, by rw [hb.cell]; rfl, by rw [hb.cell]; rfl, h⟩
  have KS := Lib.hid keepS; clear keepS hnb
  cases h1 : goodB ⟨a, b, n⟩
  · obtain ⟨k0, k1, k2, _⟩ := KS.out W (Below.refl _ _)
    go_enter Try.func3, Try.ntmps3
    go_wp2
    rw [HW.out]
    first
      | (go_region_with (first
        | (go_at_call 9; refine (good_any A16 A32 c16 c32 a b n _ la lb (ra0.to (Below.refl _ _).drew) (rb0.to (Below.refl _ _).drew)).mono ?_; rintro e w1 ⟨rfl, hb1⟩)))
      | fail
    all_goals (
      go_wp2
      go_ret
      exact ⟨rfl, hbel0.trans ((Below.refl _ _).drew.trans hb1 |>.mono hsz1)⟩)
  · have h1v : validB ⟨a, b, n⟩ = true := by simp only [goodB, Bool.and_eq_true] at h1; exact h1.1
    obtain ⟨v1, v2, -⟩ := validB_true h1v
    clear h1v
    cases hM : isB ⟨a, b, n⟩ r
    all_goals (
      go_enter Try.func3, Try.ntmps3
      go_wp2
      rw [HW.out]
      go_region_held3 (fun w' => w'.cell? ⟨w.heap.size, 0, none⟩ = some (.slice A16 a.length c16) ∧ w'.cell? ⟨w.heap.size, 1, none⟩ = some (.slice A32 b.length c32) ∧ w'.cell? ⟨w.heap.size, 2, none⟩ = some (.int .i64 n) ∧ Below W.heap.size W w')
        (first
          | exact KS.out _ (Below.refl _ _).drew
          | exact KS.out _ (by assumption))
        (first
          | (go_at_call 9; go_split_ands; refine (good_any A16 A32 c16 c32 a b n _ la lb (ra0.to (by assumption)) (rb0.to (by assumption))).mono ?_; rintro e w1 ⟨rfl, hb1⟩; have hq1 := chain (W := W) hb1 (by assumption))
          | (go_at_call 10; go_split_ands; refine (implIs_any A16 A32 c16 c32 a b n r _ hr0 hr1 v1 v2 (ra0.to (by assumption)) (rb0.to (by assumption))).mono ?_; rintro e w1 ⟨rfl, hb1⟩; have hq1 := chain (W := W) hb1 (by assumption))
          | (go_at_call 11; go_split_ands; refine (specIs_any A16 A32 c16 c32 a b n r _ hr0 hr1 la lb (ra0.to (by assumption)) (rb0.to (by assumption)) v1.pos v2.pos).mono ?_; rintro e w1 ⟨rfl, hb1⟩; have hq1 := chain (W := W) hb1 (by assumption)))
      all_goals (
        go_wp2
        go_ret
        refine ⟨rfl, hbel0.trans (Below.mono ?_ hsz1)⟩
        go_split_ands
        assumption))

theorem own : ownKnob Try.prog.godebug = none := by kernel_rfl
theorem laidOut : laidOutB Try.prog = true := by kernel_rfl

set_option maxRecDepth 100000 in
theorem lifted (os : Os) (started : os.Started) (H : Type) (enc : TypeId × Value → H) :
    ReturnsInHanded {} Try.checked os 3 .any (Rows.fnExactIsSpec.pre6 enc Try.prog Try.f3 Rows.fnExactIsRow.domain false) (Rows.fnExactIsSpec.post enc Try.prog Try.f3 false true false false) := by
  refine returnsInHanded_of_change (C := Try.checked) own started (by kernel_rfl) Try.func3
    (ChangeSpec.witness6 (enc := enc) (C := Try.checked) false ⟨#[], #[.agg #[.slice none 0 0, .slice none 0 0, .int .i64 0], .int .i32 0], []⟩ 8 (by kernel_rfl) (by kernel_rfl) (by kernel_rfl) (by kernel_rfl)) ?_
  intro W base args ds gs before hval0 hW hcnd _
  have hval : ∀ (j : Nat) t v, Try.f3.params[j]? = some t → args[j]? = some v → Value.okWide Try.prog W .any base t v := hval0
  have hW' := hW
  obtain ⟨p, q, hA0, hV, rfl, hfz, hnd⟩ := hW
  have hA : DataW.TrodAll enc Try.prog W 0 (fun _ => true) true Try.f3.params.toList args.toList ds p := hA0
  rw [Try.params3] at hA hval
  obtain ⟨v0, vs0, d0, ds0, p0, q0, hargs, rfl, rfl, h0, r0⟩ := trodAll_cons hA
  obtain ⟨v1, vs1, d1, ds1, p1, q1, rfl, rfl, rfl, h1, r1⟩ := trodAll_cons r0
  obtain ⟨rfl, rfl, rfl⟩ := trodAll_nil r1
  obtain rfl : args = #[v0, v1] := by cases args; simp_all
  obtain ⟨rfl, rfl⟩ := trodVars_none hV
  have k0 := h0
  have lt0 : ∀ x ∈ p0, x.block < W.heap.size := by obtain ⟨m, hm⟩ := k0; exact DataW.trod_lt m _ _ _ hm
  obtain ⟨x0, x1, x2, y0, y1, y2, m, rfl, -, -, hy0, hy1, hy2⟩ := open_agg3 Try.underlying25 (by kernel_rfl) (by kernel_rfl) (hval 0 25 v0 rfl rfl) h0
  obtain ⟨A16, a, c16, rfl, la, ra⟩ := open_rgs 65536 wf_u16 Try.underlying22 Try.underlying37 (by kernel_rfl) (by kernel_rfl) Try.underlying35 Try.underlying35 Try.underlying35 hy0
  obtain ⟨A32, b, c32, rfl, lb, rb⟩ := open_rgs 4294967296 wf_u32 Try.underlying23 Try.underlying41 (by kernel_rfl) (by kernel_rfl) Try.underlying39 Try.underlying39 Try.underlying39 hy1
  obtain ⟨n, e2, -, -⟩ := DataW.trod_int Try.underlying3 hy2
  simp only [List.cons.injEq, and_true] at e2
  subst e2
  obtain ⟨r, rfl, rfl, rfl, w1⟩ := open_int Try.underlying21 (hval 1 21 v1 rfl rfl) h1
  clear hA0 hval0
  refine (walk A16 A32 c16 c32 a b n r W (wf_i32 r w1).1 (wf_i32 r w1).2 la lb ra rb).mono fun e W' ⟨he, bel⟩ => ?_
  subst he
  exact ⟨_, rfl, _, _, _, [], _, [], hW', trodAll_mk1 (shut_bool Try.underlying4 _), (trodAll_cons_mk (Below.trod laidOut (by kernel_rfl) (of_decide_eq_true (by kernel_rfl)) k0 bel lt0) (trodAll_cons_mk (shut_int Try.underlying21 w1) trodAll_mk0)), rfl, bel.frame _, fun h => by cases h⟩

theorem over : Rows.fnExactIsRow.holds Try.pinned (OpenSpec.ofChange Rows.fnExactIsSpec) :=
  OpenClaim.holds_of_wide 3 Try.f3 rfl rfl rfl rfl rfl rfl rfl ⟨rfl, rfl, rfl, rfl, rfl⟩ rfl rfl rfl rfl rfl (by kernel_rfl) Try.func3 (by kernel_rfl)
    (of_decide_eq_true (by kernel_rfl)) (by unfold Func.isWrapper; first | (rw [if_pos (by decide +kernel)]; kernel_rfl) | (rw [if_neg (by decide +kernel)]; exact ⟨rfl, rfl⟩))
    (fun os started H enc _ => lifted os started H enc)

theorem proved : Rows.FnExactIsSaid := over
#print axioms proved
end Go.Proofs.Ytanlaigdfgbinaa.fnExactIs
