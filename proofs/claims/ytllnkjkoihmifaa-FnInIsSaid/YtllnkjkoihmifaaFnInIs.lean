/- FnInIs: for every input the law returns true, and what came in is as it was. No conditions. -/
import Derived.Test.YtllnkjkoihmifaaLawV
import Derived.Test.YtllnkjkoihmifaaImpl
import Derived.Test.YtllnkjkoihmifaaRows
import Derived.Deep.RegionHeld3
import Derived.Deep.RegionWith
import Derived.ProofKit
import Derived.OpenShut
import Derived.ShutString
import Derived.ChangeOld
namespace Go.Proofs.Ytllnkjkoihmifaa.fnInIs
open Go.ChangeShapes Go.WideShapes Go.ChangeAt Go.RowKit
set_option linter.unusedVariables false

set_option maxHeartbeats 8000000 in
set_option maxRecDepth 100000 in
theorem walk (A : Option Addr) (n c : Nat) (w : World) (hA : RdB w w.heap.size A n) (hm : n ≤ 9223372036854775807) :
    Calls Try.prog 5 #[.slice A n c] w fun e w' => e = .returned (.bool true) ∧ Below w.heap.size w w' := by
  rcases Nat.lt_or_ge 1048576 n with hn | hn
  · have hnz : (1048576 : Int) < (n : Int) := by omega
    go_enter Try.func5, Try.ntmps5
    go_wp2
    go_ret
    exact ⟨rfl, Below.refl _ _⟩
  have hnz : ¬ ((1048576 : Int) < (n : Int)) := by omega
  go_enter Try.func5, Try.ntmps5
  have HLE := Lib.hid (letter_any w)
  go_wp2_with fail
  go_at_call 20
  refine HLE.out.mono ?_
  rintro e wa ⟨Al, cl, rfl, hRl, hbl0⟩
  have HLI := Lib.hid (letterIn_any Al cl wa hRl)
  go_wp2_with fail
  go_at_call 15
  refine HLI.out.mono ?_
  rintro e wl ⟨rfl, hbl1⟩
  have hbl := hbl0.trans (hbl1.mono hbl0.size)
  have hAl : RdB wl wl.heap.size A n := (hA.keep fun p hp => hbl.cell hp).more hbl.size
  clear HLE HLI hbl0 hbl1 hRl
  have HDR := Lib.hid (drawIn_cap A n c wl hn hAl)
  go_wp2_with fail
  go_at_call 13
  refine HDR.out.mono ?_
  rintro e W ⟨A', c', ts, r, rfl, htl, hT, hsm, ⟨hc0, hc1⟩, hr0, hr1, hb1⟩
  clear HDR
  have hbW := hbl.trans (hb1.mono hbl.size)
  clear hbl hb1
  have HG := Lib.hid (allGood_any A' c' ts W (by omega) hT)
  go_wp2_with fail
  go_at_call 14
  refine HG.out.mono ?_
  rintro e wg ⟨rfl, hq⟩
  clear HG
  cases h1 : allGoodB ts
  · have hfin := hbW.trans (hq.mono hbW.size)
    go_wp2
    go_ret
    exact ⟨rfl, hfin⟩
  obtain ⟨hs, hp⟩ := allGoodB_true h1
  clear h1
  go_wp2_with fail
  go_loopw [5, 6] (fun s5 s6 wr => ∃ (i : Nat) (m : Bool), i ≤ ts.length ∧ s5 = .bool m ∧ s6 = .int .i64 (i : Int) ∧ m = (ts.take i).any (isB · r) ∧ Below W.heap.size W wr) (fun _ s6 _ => ts.length - (intOf s6).toNat)
  case atStart => exact ⟨0, false, Nat.zero_le _, rfl, rfl, rfl, hq⟩
  case round =>
    obtain ⟨i, m, hi, rfl, rfl, hm, hqr⟩ := hrel
    have HM := Lib.hid hm; clear hm
    by_cases hlt : i < ts.length
    · have hlz : (i : Int) < (ts.length : Int) := by omega
      obtain ⟨b, off, t, A16, c16, A32, c32, rfl, hb, ht, k0, k1, k2, ra, rb, l1, l2⟩ := (hT.to hqr).at_ hlt
      obtain ⟨v1, v2⟩ := hs.at_ ht
      have hsn := any_snoc (p := (isB · r)) ht
      rw [← HM.out] at hsn
      have HS := Lib.hid hsn; clear hsn ht
      cases m
      · cases hI : isB t r
        · have HI := Lib.hid hI; clear hI
          have HC2 := Lib.hid (HI.out ▸ implIs_any A16 A32 c16 c32 t.a t.b t.n r wr hr0 hr1 v1 v2 ra rb)
          go_wp2_with fail
          go_at_call 21
          refine HC2.out.mono ?_
          rintro e w2 ⟨rfl, hbn2⟩
          have hq2 := chain (W := W) hbn2 hqr
          clear HC2 hbn2
          clear k0 k1 k2
          go_wp2
          go_roundw
          case rel => exact ⟨i + 1, false, by omega, rfl, by go_num, by rw [HS.out, HI.out]; rfl, hq2⟩
          case measure => simp [intOf]; omega
        · have HI := Lib.hid hI; clear hI
          have HC2 := Lib.hid (HI.out ▸ implIs_any A16 A32 c16 c32 t.a t.b t.n r wr hr0 hr1 v1 v2 ra rb)
          go_wp2_with fail
          go_at_call 21
          refine HC2.out.mono ?_
          rintro e w2 ⟨rfl, hbn2⟩
          have hq2 := chain (W := W) hbn2 hqr
          clear HC2 hbn2
          clear k0 k1 k2
          go_wp2
          go_roundw
          case rel => exact ⟨i + 1, true, by omega, rfl, by go_num, by rw [HS.out, HI.out]; rfl, hq2⟩
          case measure => simp [intOf]; omega
      · clear k0 k1 k2
        go_wp2
        go_roundw
        case rel => exact ⟨i + 1, true, by omega, rfl, by go_num, by rw [HS.out]; rfl, hqr⟩
        case measure => simp [intOf]; omega
    · have hlz : ¬ ((i : Int) < (ts.length : Int)) := by omega
      have hii : i = ts.length := by omega
      have hM : m = ts.any (isB · r) := by rw [HM.out, hii, List.take_length]
      have HA := Lib.hid hM; clear hM hii
      cases m
      all_goals (
        have HC2 := Lib.hid (HA.out.symm ▸ implIn_any A' c' ts r wr hr0 hr1 (by omega) hs (hT.to hqr))
        go_wp2_with fail
        go_at_call 15
        refine HC2.out.mono ?_
        rintro e w2 ⟨rfl, hbn2⟩
        have hq2 := chain (W := W) hbn2 hqr
        clear HC2 hbn2
        have hfin := hbW.trans (hq2.mono hbW.size)
        go_wp2
        go_ret
        exact ⟨rfl, hfin⟩)

theorem own : ownKnob Try.prog.godebug = none := by kernel_rfl
theorem laidOut : laidOutB Try.prog = true := by kernel_rfl

set_option maxRecDepth 100000 in
theorem lifted (os : Os) (started : os.Started) (H : Type) (enc : TypeId × Value → H) :
    ReturnsInHanded {} Try.checked os 5 .any (Rows.fnInIsSpec.pre6 enc Try.prog Try.f5 Rows.fnInIsRow.domain false) (Rows.fnInIsSpec.post enc Try.prog Try.f5 false true false false) := by
  refine returnsInHanded_of_change (C := Try.checked) own started (by kernel_rfl) Try.func5
    (ChangeSpec.witness6 (enc := enc) (C := Try.checked) false ⟨#[], #[.slice none 0 0], []⟩ 8 (by kernel_rfl) (by kernel_rfl) (by kernel_rfl) (by kernel_rfl)) ?_
  intro W base args ds gs before hval0 hW hcnd _
  have hval : ∀ (j : Nat) t v, Try.f5.params[j]? = some t → args[j]? = some v → Value.okWide Try.prog W .any base t v := hval0
  have hW' := hW
  obtain ⟨p, q, hA0, hV, rfl, hfz, hnd⟩ := hW
  have hA : DataW.TrodAll enc Try.prog W 0 (fun _ => true) true Try.f5.params.toList args.toList ds p := hA0
  rw [Try.params5] at hA hval
  obtain ⟨v0, vs0, d0, ds0, p0, q0, hargs, rfl, rfl, h0, r0⟩ := trodAll_cons hA
  obtain ⟨rfl, rfl, rfl⟩ := trodAll_nil r0
  obtain rfl : args = #[v0] := by cases args; simp_all
  obtain ⟨rfl, rfl⟩ := trodVars_none hV
  obtain ⟨a0, len0, cap0, rfl⟩ := okWide_slice Try.underlying22 (hval 0 22 v0 rfl rfl)
  have k0 := h0
  have lt0 : ∀ x ∈ p0, x.block < W.heap.size := by obtain ⟨m, hm⟩ := k0; exact DataW.trod_lt m _ _ _ hm
  obtain ⟨hB, hM⟩ : RdB W W.heap.size a0 len0 ∧ len0 ≤ 9223372036854775807 := by
    obtain ⟨fuel, hf⟩ := h0
    rcases open_ints Try.underlying22 Try.underlying5 (by kernel_rfl) hf with ⟨hcs, _⟩ | ⟨x, l, c, zs, hcs, _, hl, hm, hz, _, hcell, hwz⟩
    · simp [Value.cells] at hcs
      obtain ⟨rfl, rfl, rfl⟩ := hcs
      exact ⟨fun h => absurd h (by omega), by omega⟩
    · simp [Value.cells] at hcs
      obtain ⟨rfl, rfl, rfl⟩ := hcs
      exact ⟨bytes_of hl (by simpa using hz) hcell hwz, by unfold maxLen at hm; omega⟩
  clear hA0 hval0
  refine (walk a0 len0 cap0 W hB hM).mono fun e W' ⟨he, bel⟩ => ?_
  subst he
  exact ⟨_, rfl, _, _, _, [], _, [], hW', trodAll_mk1 (shut_bool Try.underlying4 _), (trodAll_cons_mk (Below.trod laidOut (by kernel_rfl) (of_decide_eq_true (by kernel_rfl)) k0 bel lt0) trodAll_mk0), rfl, bel.frame _, fun h => by cases h⟩

theorem over : Rows.fnInIsRow.holds Try.pinned (OpenSpec.ofChange Rows.fnInIsSpec) :=
  OpenClaim.holds_of_wide 5 Try.f5 rfl rfl rfl rfl rfl rfl rfl ⟨rfl, rfl, rfl, rfl, rfl⟩ rfl rfl rfl rfl rfl (by kernel_rfl) Try.func5 (by kernel_rfl)
    (of_decide_eq_true (by kernel_rfl)) (by unfold Func.isWrapper; first | (rw [if_pos (by decide +kernel)]; kernel_rfl) | (rw [if_neg (by decide +kernel)]; exact ⟨rfl, rfl⟩))
    (fun os started H enc _ => lifted os started H enc)

theorem proved : Rows.FnInIsSaid := over
#print axioms proved
end Go.Proofs.Ytllnkjkoihmifaa.fnInIs
