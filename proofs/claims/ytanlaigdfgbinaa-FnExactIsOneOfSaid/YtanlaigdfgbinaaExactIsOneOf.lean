/- FnExactIsOneOf: for every list of tables and every number the law returns true, and what came in is as it was. No conditions. -/
import Derived.Test.YtanlaigdfgbinaaSpecD
import Derived.Test.YtanlaigdfgbinaaOneOf
import Derived.Test.YtanlaigdfgbinaaOpenT
import Derived.Test.YtanlaigdfgbinaaRows
import Derived.SizedLaws
import Derived.ProofKit
import Derived.OpenShut
import Derived.ShutString
import Derived.ChangeOld
namespace Go.Proofs.Ytanlaigdfgbinaa.fnExactIsOneOf
open Go.ChangeShapes Go.WideShapes Go.ChangeAt Go.RowKit Go.Joins
set_option linter.unusedVariables false

theorem srtT_of {ts : List Tab} (h : ts.all validB = true) : SrtT ts := fun t ht => by
  rw [List.all_eq_true] at h
  obtain ⟨v1, v2, -⟩ := validB_true (h t ht)
  exact ⟨v1, v2⟩

set_option maxHeartbeats 2000000 in
set_option maxRecDepth 100000 in
theorem walk (A : Option Addr) (c : Nat) (ts : List Tab) (r : Int) (w : World) (hr0 : -2147483648 ≤ r) (hr1 : r ≤ 2147483647) (hl : ts.length * 8 ≤ 140737488351232) (hr : RdT w w.heap.size A ts) :
    Calls Try.prog 7 #[.slice A ts.length c, .int .i32 r] w fun e w' => e = .returned (.bool true) ∧ Below w.heap.size w w' := by
  have HG := Lib.hid (allGood_any A c ts w (by omega) hr)
  cases h1 : allGoodB ts
  · rw [h1] at HG
    go_enter Try.func7, Try.ntmps7
    go_wp2_with (go_at_call 13; go_must (refine HG.out.mono ?_; rintro e w1 ⟨rfl, hb1⟩))
    go_ret
    exact ⟨rfl, hb1⟩
  · have h1v : ts.all validB = true := by simp only [allGoodB, Bool.and_eq_true] at h1; exact h1.1
    have hs := srtT_of h1v
    have hq := posT_of h1v
    clear h1v
    rw [h1] at HG
    clear h1
    cases hM : ts.any (isB · r)
    all_goals (
      have HM := Lib.hid hM; clear hM
      go_enter Try.func7, Try.ntmps7
      go_wp2_with fail
      go_at_call 13
      refine HG.out.mono ?_
      rintro e w1 ⟨rfl, hb1⟩
      have HI := Lib.hid (implOneOf_any A c ts r w1 hr0 hr1 hl hs (hr.to hb1))
      rw [HM.out] at HI
      go_wp2_with fail
      go_at_call 17
      refine HI.out.mono ?_
      rintro e w2 ⟨rfl, hb2⟩
      have hb3 := hb1.trans (hb2.mono hb1.size)
      have HS := Lib.hid (specIsOneOf_any A c ts r w2 hr0 hr1 (by omega) hq (hr.to hb3))
      rw [HM.out] at HS
      go_wp2_with (go_at_call 18; go_must (refine HS.out.mono ?_; rintro e w3 ⟨rfl, hb4⟩))
      go_ret
      exact ⟨rfl, hb3.trans (hb4.mono hb3.size)⟩)

theorem own : ownKnob Try.prog.godebug = none := by kernel_rfl
theorem laidOut : laidOutB Try.prog = true := by kernel_rfl

set_option maxRecDepth 100000 in
theorem lifted (os : Os) (started : os.Started) (H : Type) (enc : TypeId × Value → H) :
    ReturnsInHanded {} Try.checked os 7 .any (Rows.fnExactIsOneOfSpec.pre6 enc Try.prog Try.f7 Rows.fnExactIsOneOfRow.domain false) (Rows.fnExactIsOneOfSpec.post enc Try.prog Try.f7 false true false false) := by
  refine returnsInHanded_of_change_sized (C := Try.checked) own started (by kernel_rfl) Try.func7
    (ChangeSpec.witness6 (enc := enc) (C := Try.checked) false ⟨#[], #[.slice none 0 0, .int .i32 0], []⟩ 8 (by kernel_rfl) (by kernel_rfl) (by kernel_rfl) (by kernel_rfl)) ?_
  intro W base args ds gs before hval0 hW _ hsz0 _
  have hval : ∀ (j : Nat) t v, Try.f7.params[j]? = some t → args[j]? = some v → Value.okWide Try.prog W .any base t v := hval0
  have hsz : (DataW.weightsEach Try.prog (Try.f7.params.toList ++ Rows.fnExactIsOneOfSpec.plain.varTypes Try.prog) (ds ++ gs)).all (· ≤ reachBytes) = true := hsz0
  have hW' := hW
  obtain ⟨p, q, hA0, hV, rfl, hfz, hnd⟩ := hW
  have hA : DataW.TrodAll enc Try.prog W 0 (fun _ => true) true Try.f7.params.toList args.toList ds p := hA0
  rw [Try.params7] at hA hval hsz
  obtain ⟨v0, vs0, d0, ds0, p0, q0, hargs, rfl, rfl, h0, r0⟩ := trodAll_cons hA
  obtain ⟨v1, vs1, d1, ds1, p1, q1, rfl, rfl, rfl, h1, r1⟩ := trodAll_cons r0
  obtain ⟨rfl, rfl, rfl⟩ := trodAll_nil r1
  obtain rfl : args = #[v0, v1] := by cases args; simp_all
  obtain ⟨rfl, rfl⟩ := trodVars_none hV
  have kL := h0
  have ltL : ∀ x ∈ p0, x.block < W.heap.size := by obtain ⟨m, hm⟩ := kL; exact DataW.trod_lt m _ _ _ hm
  obtain ⟨fu, hf⟩ := h0
  obtain ⟨a0, len0, cap0, rfl⟩ := okWide_slice Try.underlying28 (hval 0 28 v0 rfl rfl)
  obtain ⟨A, ts, c, hv, hl, hT, hlen⟩ := open_tabs hf
  have hlen' : ts.length * 8 ≤ 140737488351232 := by
    rcases hlen with rfl | ⟨elems, sp, hd, he⟩
    · simp
    · have hd' : ([d0, d1] : List (DataW H))[0]? = some (.slice elems sp) := by rw [← hd]; rfl
      have hw := sized_slice hsz (j := 0) (t := 28) (e := 25) rfl (by simpa using hd') Try.underlying28
      have hb : Try.prog.bytesOf 25 = 56 := by kernel_rfl
      rw [hb, he] at hw
      simp only [reachBytes] at hw
      omega
  injection hv with e1 e2 e3
  subst e1 e2 e3
  obtain ⟨r, rfl, rfl, rfl, wr⟩ := open_int Try.underlying21 (hval 1 21 v1 rfl rfl) h1
  clear hA0 hval0
  refine (walk _ _ ts r W (wf_i32 r wr).1 (wf_i32 r wr).2 hlen' hT).mono fun e W' ⟨he, bel⟩ => ?_
  subst he
  exact ⟨_, rfl, _, _, _, [], _, [], hW', trodAll_mk1 (shut_bool Try.underlying4 _), (trodAll_cons_mk (Below.trod laidOut (by kernel_rfl) (of_decide_eq_true (by kernel_rfl)) kL bel ltL) (trodAll_cons_mk (shut_int Try.underlying21 wr) trodAll_mk0)), rfl, bel.frame _, fun h => by cases h⟩

theorem over : Rows.fnExactIsOneOfRow.holds Try.pinned (OpenSpec.ofChange Rows.fnExactIsOneOfSpec) :=
  OpenClaim.holds_of_wide 7 Try.f7 rfl rfl rfl rfl rfl rfl rfl ⟨rfl, rfl, rfl, rfl, rfl⟩ rfl rfl rfl rfl rfl (by kernel_rfl) Try.func7 (by kernel_rfl)
    (of_decide_eq_true (by kernel_rfl)) (by unfold Func.isWrapper; first | (rw [if_pos (by decide +kernel)]; kernel_rfl) | (rw [if_neg (by decide +kernel)]; exact ⟨rfl, rfl⟩))
    (fun os started H enc _ => lifted os started H enc)

theorem proved : Rows.FnExactIsOneOfSaid := over
#print axioms proved
end Go.Proofs.Ytanlaigdfgbinaa.fnExactIsOneOf
