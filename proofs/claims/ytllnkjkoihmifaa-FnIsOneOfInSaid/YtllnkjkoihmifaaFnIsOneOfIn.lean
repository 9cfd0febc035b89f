/- FnIsOneOfIn: for every input the law returns true, and what came in is as it was. No conditions. -/
import Derived.Test.YtllnkjkoihmifaaLawU
import Derived.Test.YtllnkjkoihmifaaRows
import Derived.Deep.RegionHeld3
import Derived.Deep.RegionWith
import Derived.ProofKit
import Derived.OpenShut
import Derived.ShutString
import Derived.ChangeOld
namespace Go.Proofs.Ytllnkjkoihmifaa.fnIsOneOfIn
open Go.ChangeShapes Go.WideShapes Go.ChangeAt Go.RowKit
set_option linter.unusedVariables false

set_option maxHeartbeats 4000000 in
set_option maxRecDepth 100000 in
theorem walk (A : Option Addr) (n c : Nat) (w : World) (hA : RdB w w.heap.size A n) (hm : n ≤ 9223372036854775807) :
    Calls Try.prog 12 #[.slice A n c] w fun e w' => e = .returned (.bool true) ∧ Below w.heap.size w w' := by
  rcases Nat.lt_or_ge 1048576 n with hn | hn
  · have hnz : (1048576 : Int) < (n : Int) := by omega
    go_enter Try.func12, Try.ntmps12
    go_wp2
    go_ret
    exact ⟨rfl, Below.refl _ _⟩
  have hnz : ¬ ((1048576 : Int) < (n : Int)) := by omega
  go_enter Try.func12, Try.ntmps12
  have HLE := Lib.hid (letter_any w)
  go_wp2_with fail
  go_at_call 20
  refine HLE.out.mono ?_
  rintro e wa ⟨Al, cl, rfl, hRl, hbl0⟩
  have HLI := Lib.hid (letterIn_any Al cl wa hRl)
  go_wp2_with fail
  go_at_call 15
  refine HLI.out.mono ?_
  rintro e wl ⟨rfl, hbl1⟩
  have hbl := hbl0.trans (hbl1.mono hbl0.size)
  have hAl : RdB wl wl.heap.size A n := (hA.keep fun p hp => hbl.cell hp).more hbl.size
  clear HLE HLI hbl0 hbl1 hRl
  have HLE := Lib.hid (letter_any wl)
  go_wp2_with fail
  go_at_call 20
  refine HLE.out.mono ?_
  rintro e wa2 ⟨Al2, cl2, rfl, hRl2, hbl2⟩
  have HLI := Lib.hid (letterOneOf_any Al2 cl2 wa2 hRl2)
  go_wp2_with fail
  go_at_call 18
  refine HLI.out.mono ?_
  rintro e wm ⟨rfl, hbl3⟩
  have hbm := hbl.trans ((hbl2.trans (hbl3.mono hbl2.size)).mono hbl.size)
  have hAm : RdB wm wm.heap.size A n := (hA.keep fun p hp => hbm.cell hp).more hbm.size
  clear HLE HLI hbl hbl2 hbl3 hRl2 hAl
  have HDR := Lib.hid (drawOneOf_ts A n c wm hn hAm)
  go_wp2_with fail
  go_at_call 17
  refine HDR.out.mono ?_
  rintro e W ⟨A', c', ts, r, rfl, htl, hT, hsm, hr0, hr1, hb1⟩
  clear HDR
  have hbW := hbm.trans (hb1.mono hbm.size)
  clear hbm hb1
  have HG := Lib.hid (allGood_any A' c' ts W (by omega) hT)
  go_wp2_with fail
  go_at_call 14
  refine HG.out.mono ?_
  rintro e wg ⟨rfl, hq⟩
  clear HG
  cases h1 : allGoodB ts
  · have hfin := hbW.trans (hq.mono hbW.size)
    go_wp2
    go_ret
    exact ⟨rfl, hfin⟩
  obtain ⟨hs, hp⟩ := allGoodB_true h1
  clear h1
  cases hM : ts.any (isB · r)
  all_goals (
    have HM := Lib.hid hM; clear hM
    have HC2 := Lib.hid (HM.out ▸ implOneOf_any A' c' ts r wg hr0 hr1 (by omega) hs (hT.to hq))
    go_wp2_with fail
    go_at_call 18
    refine HC2.out.mono ?_
    rintro e w2 ⟨rfl, hbn2⟩
    have hq2 := chain (W := W) hbn2 hq
    clear HC2 hbn2
    have HC3 := Lib.hid (HM.out ▸ implIn_any A' c' ts r w2 hr0 hr1 (by omega) hs (hT.to hq2))
    go_wp2_with fail
    go_at_call 15
    refine HC3.out.mono ?_
    rintro e w3 ⟨rfl, hbn3⟩
    have hq3 := chain (W := W) hbn3 hq2
    clear HC3 hbn3
    have hfin := hbW.trans (hq3.mono hbW.size)
    go_wp2
    go_ret
    exact ⟨rfl, hfin⟩)

theorem own : ownKnob Try.prog.godebug = none := by kernel_rfl
theorem laidOut : laidOutB Try.prog = true := by kernel_rfl

set_option maxRecDepth 100000 in
theorem lifted (os : Os) (started : os.Started) (H : Type) (enc : TypeId × Value → H) :
    ReturnsInHanded {} Try.checked os 12 .any (Rows.fnIsOneOfInSpec.pre6 enc Try.prog Try.f12 Rows.fnIsOneOfInRow.domain false) (Rows.fnIsOneOfInSpec.post enc Try.prog Try.f12 false true false false) := by
  refine returnsInHanded_of_change (C := Try.checked) own started (by kernel_rfl) Try.func12
    (ChangeSpec.witness6 (enc := enc) (C := Try.checked) false ⟨#[], #[.slice none 0 0], []⟩ 8 (by kernel_rfl) (by kernel_rfl) (by kernel_rfl) (by kernel_rfl)) ?_
  intro W base args ds gs before hval0 hW hcnd _
  have hval : ∀ (j : Nat) t v, Try.f12.params[j]? = some t → args[j]? = some v → Value.okWide Try.prog W .any base t v := hval0
  have hW' := hW
  obtain ⟨p, q, hA0, hV, rfl, hfz, hnd⟩ := hW
  have hA : DataW.TrodAll enc Try.prog W 0 (fun _ => true) true Try.f12.params.toList args.toList ds p := hA0
  rw [Try.params12] at hA hval
  obtain ⟨v0, vs0, d0, ds0, p0, q0, hargs, rfl, rfl, h0, r0⟩ := trodAll_cons hA
  obtain ⟨rfl, rfl, rfl⟩ := trodAll_nil r0
  obtain rfl : args = #[v0] := by cases args; simp_all
  obtain ⟨rfl, rfl⟩ := trodVars_none hV
  obtain ⟨a0, len0, cap0, rfl⟩ := okWide_slice Try.underlying22 (hval 0 22 v0 rfl rfl)
  have k0 := h0
  have lt0 : ∀ x ∈ p0, x.block < W.heap.size := by obtain ⟨m, hm⟩ := k0; exact DataW.trod_lt m _ _ _ hm
  obtain ⟨hB, hM⟩ : RdB W W.heap.size a0 len0 ∧ len0 ≤ 9223372036854775807 := by
    obtain ⟨fuel, hf⟩ := h0
    rcases open_ints Try.underlying22 Try.underlying5 (by kernel_rfl) hf with ⟨hcs, _⟩ | ⟨x, l, c, zs, hcs, _, hl, hm, hz, _, hcell, hwz⟩
    · simp [Value.cells] at hcs
      obtain ⟨rfl, rfl, rfl⟩ := hcs
      exact ⟨fun h => absurd h (by omega), by omega⟩
    · simp [Value.cells] at hcs
      obtain ⟨rfl, rfl, rfl⟩ := hcs
      exact ⟨bytes_of hl (by simpa using hz) hcell hwz, by unfold maxLen at hm; omega⟩
  clear hA0 hval0
  refine (walk a0 len0 cap0 W hB hM).mono fun e W' ⟨he, bel⟩ => ?_
  subst he
  exact ⟨_, rfl, _, _, _, [], _, [], hW', trodAll_mk1 (shut_bool Try.underlying4 _), (trodAll_cons_mk (Below.trod laidOut (by kernel_rfl) (of_decide_eq_true (by kernel_rfl)) k0 bel lt0) trodAll_mk0), rfl, bel.frame _, fun h => by cases h⟩

theorem over : Rows.fnIsOneOfInRow.holds Try.pinned (OpenSpec.ofChange Rows.fnIsOneOfInSpec) :=
  OpenClaim.holds_of_wide 12 Try.f12 rfl rfl rfl rfl rfl rfl rfl ⟨rfl, rfl, rfl, rfl, rfl⟩ rfl rfl rfl rfl rfl (by kernel_rfl) Try.func12 (by kernel_rfl)
    (of_decide_eq_true (by kernel_rfl)) (by unfold Func.isWrapper; first | (rw [if_pos (by decide +kernel)]; kernel_rfl) | (rw [if_neg (by decide +kernel)]; exact ⟨rfl, rfl⟩))
    (fun os started H enc _ => lifted os started H enc)

theorem proved : Rows.FnIsOneOfInSaid := over
#print axioms proved
end Go.Proofs.Ytllnkjkoihmifaa.fnIsOneOfIn
