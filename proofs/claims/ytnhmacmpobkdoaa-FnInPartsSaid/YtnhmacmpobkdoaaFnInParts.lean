/- FnInParts: for every input the law returns true, and what came in is as it was. No conditions. -/
import Derived.Test.YtnhmacmpobkdoaaLawX
import Derived.Test.YtnhmacmpobkdoaaRows
import Derived.Deep.RegionHeld3
import Derived.Deep.RegionWith
import Derived.ProofKit
import Derived.OpenShut
import Derived.ShutString
import Derived.ChangeOld
namespace Go.Proofs.Ytnhmacmpobkdoaa.fnInParts
open Go.ChangeShapes Go.WideShapes Go.ChangeAt Go.RowKit
set_option linter.unusedVariables false

set_option maxHeartbeats 8000000 in
set_option maxRecDepth 100000 in
theorem walk (A : Option Addr) (n c : Nat) (w : World) (hA : RdB w w.heap.size A n) (hm : n ≤ 9223372036854775807) :
    Calls Try.prog 13 #[.slice A n c] w fun e w' => e = .returned (.bool true) ∧ Below w.heap.size w w' := by
  rcases Nat.lt_or_ge 1048576 n with hn | hn
  · have hnz : (1048576 : Int) < (n : Int) := by omega
    go_enter Try.func13, Try.ntmps13
    go_wp2
    go_ret
    exact ⟨rfl, Below.refl _ _⟩
  have hnz : ¬ ((1048576 : Int) < (n : Int)) := by omega
  go_enter Try.func13, Try.ntmps13
  have HLE := Lib.hid (letter_any w)
  go_wp2_with fail
  go_at_call 16
  refine HLE.out.mono ?_
  rintro e wa ⟨Al, cl, rfl, hRl, hbl0⟩
  have HLI := Lib.hid (letterIn_any Al cl wa hRl)
  go_wp2_with fail
  go_at_call 15
  refine HLI.out.mono ?_
  rintro e wl ⟨rfl, hbl1⟩
  have hbl := hbl0.trans (hbl1.mono hbl0.size)
  have hAl : RdB wl wl.heap.size A n := (hA.keep fun p hp => hbl.cell hp).more hbl.size
  clear HLE HLI hbl0 hbl1 hRl
  have HDR := Lib.hid (drawIn_own A n c wl hn hAl)
  go_wp2_with fail
  go_at_call 34
  refine HDR.out.mono ?_
  rintro e W ⟨A', c', ts, r, rfl, htl, hT, hsm, ⟨hc0, hc1⟩, hat, hr0, hr1, hb1⟩
  clear HDR
  have hbW := hbl.trans (hb1.mono hbl.size)
  clear hbl hb1
  have HG := Lib.hid (allGood_any A' c' ts W (by omega) hT)
  go_wp2_with fail
  go_at_call 35
  refine HG.out.mono ?_
  rintro e wg ⟨rfl, hq⟩
  clear HG
  cases h1 : allGoodB ts
  · have hfin := hbW.trans (hq.mono hbW.size)
    go_wp2
    go_ret
    exact ⟨rfl, hfin⟩
  obtain ⟨hs, hp⟩ := allGoodB_true h1
  clear h1
  have HAT := Lib.hid hat; have HTT := Lib.hid hT; have HSS := Lib.hid hs; clear hat hp hsm hT hs
  go_wp2_with fail
  go_loopw [5] (fun s5 wr => ∃ (i : Nat), i ≤ ts.length + 1 ∧ s5 = .int .i64 (i : Int) ∧ Below W.heap.size W wr) (fun s5 _ => ts.length + 1 - (intOf s5).toNat)
  case atStart => exact ⟨0, Nat.zero_le _, rfl, hq⟩
  case round =>
    clear hq
    obtain ⟨i, hi, rfl, hqr⟩ := hrel
    by_cases hlt : i ≤ ts.length
    · have hlz : (i : Int) ≤ (ts.length : Int) := by omega
      have c0 : (0 : Int) ≤ (i : Int) := by omega
      have c1 : (i : Int) ≤ (c' : Int) := by omega
      have c3 : (ts.length : Int) ≤ (c' : Int) := by omega
      have HP := Lib.hid (any_parts ts (isB · r) i)
      by_cases hc : c' = i
      · obtain rfl : i = ts.length := by omega
        subst hc
        have hM0 := HP.out
        rw [List.take_length, List.drop_length, List.any_nil, Bool.or_false] at hM0
        clear hM0 HP
        cases hM : ts.any (isB · r)
        · skip
          rcases HAT.out with ⟨hA0, -, -⟩ | ⟨g, hA0⟩
          all_goals (
            subst hA0
            go_wp2_with fail
            go_region_held3 (fun w' => Below W.heap.size W w')
              (first
                | assumption
                | exact Below.drew (by assumption))
              (first
                | (go_at_call 15; go_split_ands; (with_reducible refine (implIn_seg _ _ _ ts r _ hr0 hr1 HSS.out rfl htl (HTT.out.to (by assumption))).mono ?_); rintro e wn ⟨rfl, hbn⟩; have hqn := chain (W := W) hbn (by assumption))
                | (go_at_call 15; go_split_ands; refine (implIn_seg _ _ _ [] r _ hr0 hr1 (fun t ht => by cases ht) rfl (by simp) RdT.nil).mono ?_; rintro e wn ⟨rfl, hbn⟩; have hqn := chain (W := W) hbn (by assumption)))
            all_goals (
              go_wp2
              go_roundw
              case rel => exact ⟨ts.length + 1, by omega, by go_num, by go_split_ands; assumption⟩
              case measure => first | (simp [intOf]; done) | (simp [intOf]; omega)))
        · skip
          have hqd := hqr.drew
          go_wp2_with fail
          first
            | (go_region_with (first
                | (go_at_call 15; (with_reducible refine (implIn_seg _ _ _ ts r _ hr0 hr1 HSS.out rfl htl (HTT.out.to (by assumption))).mono ?_); rintro e wn ⟨rfl, hbn⟩; have hqn := chain (W := W) hbn (by assumption))))
            | fail
          all_goals (
            go_wp2
            go_roundw
            case rel => exact ⟨ts.length + 1, by omega, by go_num, by assumption⟩
            case measure => first | (simp [intOf]; done) | (simp [intOf]; omega))
      · have hc' : ¬ i = c' := fun h => hc h.symm
        obtain ⟨g, rfl⟩ : ∃ g, A' = some ⟨g, 0, none⟩ := by
          rcases HAT.out with ⟨-, h1, h2⟩ | h
          · exfalso; apply hc; rw [h1] at hlt; simp at hlt; omega
          · exact h
        have htk : (ts.take i).length = i := by rw [List.length_take]; omega
        have HTK := Lib.hid htk
        have HTL : Go.RowKit.Hid ((ts.take i).length ≤ 5) := Lib.hid (by omega)
        clear htk
        have hdk : (ts.drop i).length = ts.length - i := by rw [List.length_drop]
        have HDK := Lib.hid hdk
        have HDL : Go.RowKit.Hid ((ts.drop i).length ≤ 5) := Lib.hid (by omega)
        clear hdk
        cases hM : (ts.take i).any (isB · r)
        · cases hD : (ts.drop i).any (isB · r)
          all_goals (
            have hN := HP.out
            rw [hM, hD] at hN
            simp only [Bool.or_true, Bool.or_false] at hN
            have HTD := Lib.hid (HTT.out.drop i)
            skip
            go_wp2_with fail
            go_region_held3 (fun w' => Below W.heap.size W w')
              (first
                | assumption
                | exact Below.drew (by assumption))
              (first
                | (go_at_call 15; go_split_ands; (with_reducible refine (implIn_seg _ _ _ ts r _ hr0 hr1 HSS.out rfl htl (HTT.out.to (by assumption))).mono ?_); rintro e wn ⟨rfl, hbn⟩; have hqn := chain (W := W) hbn (by assumption))
                | (go_at_call 15; go_split_ands; (with_reducible refine (implIn_seg _ _ _ (ts.take i) r _ hr0 hr1 (HSS.out.take i) HTK.out HTL.out ((HTT.out.take i).to (by assumption))).mono ?_); rintro e wn ⟨rfl, hbn⟩; have hqn := chain (W := W) hbn (by assumption))
                | (go_at_call 15; go_split_ands; (with_reducible refine (implIn_seg _ _ _ (ts.drop i) r _ hr0 hr1 (HSS.out.drop i) HDK.out HDL.out (by first | exact HTD.out.to (by assumption) | (have := HTD.out; rw [Nat.zero_add] at this; exact this.to (by assumption)))).mono ?_); rintro e wn ⟨rfl, hbn⟩; have hqn := chain (W := W) hbn (by assumption)))
            all_goals (
              go_wp2
              go_roundw
              case rel => exact ⟨i + 1, by omega, by go_num, by go_split_ands; assumption⟩
              case measure => first | (simp [intOf]; done) | (simp [intOf]; omega)))
        · have hN := HP.out
          rw [hM] at hN
          simp only [Bool.true_or] at hN
          have hqd := hqr.drew
          go_wp2_with fail
          first
            | (go_region_with (first
                | (go_at_call 15; (with_reducible refine (implIn_seg _ _ _ ts r _ hr0 hr1 HSS.out rfl htl (HTT.out.to (by assumption))).mono ?_); rintro e wn ⟨rfl, hbn⟩; have hqn := chain (W := W) hbn (by assumption))
                | (go_at_call 15; (with_reducible refine (implIn_seg _ _ _ (ts.take i) r _ hr0 hr1 (HSS.out.take i) HTK.out HTL.out ((HTT.out.take i).to (by assumption))).mono ?_); rintro e wn ⟨rfl, hbn⟩; have hqn := chain (W := W) hbn (by assumption))))
            | fail
          all_goals (
            go_wp2
            go_roundw
            case rel => exact ⟨i + 1, by omega, by go_num, by assumption⟩
            case measure => first | (simp [intOf]; done) | (simp [intOf]; omega))
    · have hlz : ¬ ((i : Int) ≤ (ts.length : Int)) := by omega
      have hfin := hbW.trans (hqr.mono hbW.size)
      go_wp2
      go_ret
      exact ⟨rfl, hfin⟩

theorem own : ownKnob Try.prog.godebug = none := by kernel_rfl
theorem laidOut : laidOutB Try.prog = true := by kernel_rfl

set_option maxRecDepth 100000 in
theorem lifted (os : Os) (started : os.Started) (H : Type) (enc : TypeId × Value → H) :
    ReturnsInHanded {} Try.checked os 13 .any (Rows.fnInPartsSpec.pre6 enc Try.prog Try.f13 Rows.fnInPartsRow.domain false) (Rows.fnInPartsSpec.post enc Try.prog Try.f13 false true false false) := by
  refine returnsInHanded_of_change (C := Try.checked) own started (by kernel_rfl) Try.func13
    (ChangeSpec.witness6 (enc := enc) (C := Try.checked) false ⟨#[], #[.slice none 0 0], []⟩ 8 (by kernel_rfl) (by kernel_rfl) (by kernel_rfl) (by kernel_rfl)) ?_
  intro W base args ds gs before hval0 hW hcnd _
  have hval : ∀ (j : Nat) t v, Try.f13.params[j]? = some t → args[j]? = some v → Value.okWide Try.prog W .any base t v := hval0
  have hW' := hW
  obtain ⟨p, q, hA0, hV, rfl, hfz, hnd⟩ := hW
  have hA : DataW.TrodAll enc Try.prog W 0 (fun _ => true) true Try.f13.params.toList args.toList ds p := hA0
  rw [Try.params13] at hA hval
  obtain ⟨v0, vs0, d0, ds0, p0, q0, hargs, rfl, rfl, h0, r0⟩ := trodAll_cons hA
  obtain ⟨rfl, rfl, rfl⟩ := trodAll_nil r0
  obtain rfl : args = #[v0] := by cases args; simp_all
  obtain ⟨rfl, rfl⟩ := trodVars_none hV
  obtain ⟨a0, len0, cap0, rfl⟩ := okWide_slice Try.underlying22 (hval 0 22 v0 rfl rfl)
  have k0 := h0
  have lt0 : ∀ x ∈ p0, x.block < W.heap.size := by obtain ⟨m, hm⟩ := k0; exact DataW.trod_lt m _ _ _ hm
  obtain ⟨hB, hM⟩ : RdB W W.heap.size a0 len0 ∧ len0 ≤ 9223372036854775807 := by
    obtain ⟨fuel, hf⟩ := h0
    rcases open_ints Try.underlying22 Try.underlying5 (by kernel_rfl) hf with ⟨hcs, _⟩ | ⟨x, l, c, zs, hcs, _, hl, hm, hz, _, hcell, hwz⟩
    · simp [Value.cells] at hcs
      obtain ⟨rfl, rfl, rfl⟩ := hcs
      exact ⟨fun h => absurd h (by omega), by omega⟩
    · simp [Value.cells] at hcs
      obtain ⟨rfl, rfl, rfl⟩ := hcs
      exact ⟨bytes_of hl (by simpa using hz) hcell hwz, by unfold maxLen at hm; omega⟩
  clear hA0 hval0
  refine (walk a0 len0 cap0 W hB hM).mono fun e W' ⟨he, bel⟩ => ?_
  subst he
  exact ⟨_, rfl, _, _, _, [], _, [], hW', trodAll_mk1 (shut_bool Try.underlying4 _), (trodAll_cons_mk (Below.trod laidOut (by kernel_rfl) (of_decide_eq_true (by kernel_rfl)) k0 bel lt0) trodAll_mk0), rfl, bel.frame _, fun h => by cases h⟩

theorem over : Rows.fnInPartsRow.holds Try.pinned (OpenSpec.ofChange Rows.fnInPartsSpec) :=
  OpenClaim.holds_of_wide 13 Try.f13 rfl rfl rfl rfl rfl rfl rfl ⟨rfl, rfl, rfl, rfl, rfl⟩ rfl rfl rfl rfl rfl (by kernel_rfl) Try.func13 (by kernel_rfl)
    (of_decide_eq_true (by kernel_rfl)) (by unfold Func.isWrapper; first | (rw [if_pos (by decide +kernel)]; kernel_rfl) | (rw [if_neg (by decide +kernel)]; exact ⟨rfl, rfl⟩))
    (fun os started H enc _ => lifted os started H enc)

theorem proved : Rows.FnInPartsSaid := over
#print axioms proved
end Go.Proofs.Ytnhmacmpobkdoaa.fnInParts
