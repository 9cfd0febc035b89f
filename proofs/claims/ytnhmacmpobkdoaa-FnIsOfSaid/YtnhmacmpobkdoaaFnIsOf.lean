/- FnIsOf: for every input the law returns true, and what came in is as it was. No conditions. -/
import Derived.Test.YtnhmacmpobkdoaaLawA
import Derived.Test.YtnhmacmpobkdoaaSorted
import Derived.Test.YtnhmacmpobkdoaaOf
import Derived.Test.YtnhmacmpobkdoaaRows
import Derived.Deep.RegionHeld3
import Derived.Deep.RegionWith
import Derived.ProofKit
import Derived.OpenShut
import Derived.ShutString
import Derived.ChangeOld
namespace Go.Proofs.Ytnhmacmpobkdoaa.fnIsOf
open Go.ChangeShapes Go.WideShapes Go.ChangeAt Go.RowKit
set_option linter.unusedVariables false

set_option maxHeartbeats 8000000 in
set_option maxRecDepth 100000 in
theorem walk (A : Option Addr) (n c : Nat) (w : World) (hA : RdB w w.heap.size A n) (hm : n ≤ 9223372036854775807) :
    Calls Try.prog 8 #[.slice A n c] w fun e w' => e = .returned (.bool true) ∧ Below w.heap.size w w' := by
  rcases Nat.lt_or_ge 1048576 n with hn | hn
  · have hnz : (1048576 : Int) < (n : Int) := by omega
    go_enter Try.func8, Try.ntmps8
    go_wp2
    go_ret
    exact ⟨rfl, Below.refl _ _⟩
  have hnz : ¬ ((1048576 : Int) < (n : Int)) := by omega
  go_enter Try.func8, Try.ntmps8
  have HDR := Lib.hid (drawList_any A n c w hn hA)
  go_wp2_with fail
  go_at_call 26
  refine HDR.out.mono ?_
  rintro e w1 ⟨A', c', zs, r, rfl, hzl, hR, hr0, hr1, hb1⟩
  clear HDR
  have hrn := hR.rn
  have h32 := hR.2
  have HR := Lib.hid hR; clear hR
  go_wp2_with fail
  go_loop [5, 6] (fun s5 s6 => ∃ (i : Nat) (m : Bool), i ≤ zs.length ∧ s5 = .bool m ∧ s6 = .int .i64 (i : Int) ∧ m = decide (r ∈ zs.take i ∧ 0 ≤ r ∧ r ≤ 1114111)) (fun _ s6 => zs.length - (intOf s6).toNat)
  case atStart => exact ⟨0, false, Nat.zero_le _, rfl, rfl, by simp⟩
  case round =>
    obtain ⟨i, m, hi, rfl, rfl, hm⟩ := hrel
    have HM := Lib.hid hm; clear hm
    by_cases hlt : i < zs.length
    · obtain ⟨b1, o1, z, rfl, hb1, hz, cz⟩ := hrn.at_ hlt
      have hsn : decide (r ∈ zs.take (i + 1) ∧ 0 ≤ r ∧ r ≤ 1114111) = (m || (decide (z = r) && decide (0 ≤ r) && decide (r ≤ 1114111))) := by
        rw [HM.out, take_snocI hz, Bool.eq_iff_iff]
        simp only [decide_eq_true_eq, Bool.or_eq_true, Bool.and_eq_true, List.mem_append, List.mem_singleton]
        constructor
        · rintro ⟨h | h, h2, h3⟩
          · exact .inl ⟨h, h2, h3⟩
          · exact .inr ⟨⟨h.symm, h2⟩, h3⟩
        · rintro (⟨h, h2, h3⟩ | ⟨⟨h, h2⟩, h3⟩)
          · exact ⟨.inl h, h2, h3⟩
          · exact ⟨.inr h.symm, h2, h3⟩
      have HSN := Lib.hid hsn; clear hsn hz HM
      have iz : (i : Int) < (zs.length : Int) := by omega
      cases m
      · by_cases h1 : z = r
        · have h1b : (z == r) = true := by simp [h1]
          by_cases h2 : 0 ≤ r
          · have h2b : decide (0 ≤ r) = true := by simp [h2]
            by_cases h3 : r ≤ 1114111
            · have h3b : decide (r ≤ 1114111) = true := by simp [h3]
              go_wp2
              go_round
              case rel => exact ⟨i + 1, _, by omega, rfl, by go_num, by rw [HSN.out]; simp [*]⟩
              case measure => simp [intOf]; omega
            · have h3b : decide (r ≤ 1114111) = false := by simp; omega
              go_wp2
              go_round
              case rel => exact ⟨i + 1, _, by omega, rfl, by go_num, by rw [HSN.out]; simp [*]⟩
              case measure => simp [intOf]; omega
          · have h2b : decide (0 ≤ r) = false := by simp; omega
            go_wp2
            go_round
            case rel => exact ⟨i + 1, _, by omega, rfl, by go_num, by rw [HSN.out]; simp [*]⟩
            case measure => simp [intOf]; omega
        · have h1b : (z == r) = false := by simp [h1]
          go_wp2
          go_round
          case rel => exact ⟨i + 1, _, by omega, rfl, by go_num, by rw [HSN.out]; simp [*]⟩
          case measure => simp [intOf]; omega
      · skip
        go_wp2
        go_round
        case rel => exact ⟨i + 1, _, by omega, rfl, by go_num, by rw [HSN.out]; simp [*]⟩
        case measure => simp [intOf]; omega
    · have hlz : ¬ ((i : Int) < (zs.length : Int)) := by omega
      have hM : m = decide (r ∈ zs ∧ 0 ≤ r ∧ r ≤ 1114111) := by rw [HM.out, show i = zs.length from by omega, List.take_length]
      have HM2 := Lib.hid hM; clear hM HM
      have HSO := Lib.hid (sorted_any A' c' zs w1 hzl hrn h32)
      go_wp2_with fail
      go_at_call 28
      refine HSO.out.mono ?_
      rintro e w2 ⟨Ao, co, os, rfl, hS, hRo, hb2⟩
      clear HSO
      have hol := hS.2.2
      have hmo : isB ⟨ofA os, ofB os, latN (ofA os)⟩ r = m := by
        rw [isB_of, HM2.out, Bool.eq_iff_iff]
        simp only [decide_eq_true_eq]
        have := hS.2.1 r
        rw [List.take_length] at this
        exact this
      have hco : Cps os := fun z hz => ((hS.2.1 z).1 hz).2
      have u1 := srt_ofA hS.1 hco
      have u2 := srt_ofB hS.1 hco
      have HMO := Lib.hid hmo; have HOF := Lib.hid (of_any Ao co os w2 (by omega) hRo.rn hco); clear hmo hS hRo
      go_wp2_with fail
      go_at_call 27
      refine HOF.out.mono ?_
      rintro e w3 hmade
      obtain ⟨Aq, cq, Bq, dq, rfl, rq, sq, hb3⟩ := hmade.rd16
      clear HOF hmade
      have HIS := Lib.hid (HMO.out ▸ implIs_any Aq Bq cq dq (ofA os) (ofB os) (latN (ofA os)) r w3 hr0 hr1 u1 u2 rq sq)
      go_wp2_with fail
      go_at_call 20
      refine HIS.out.mono ?_
      rintro e w4 ⟨rfl, hb4⟩
      clear HIS
      have hfin := hb1.trans ((chain hb4 (chain hb3 hb2)).mono hb1.size)
      clear hb2 hb3 hb4
      cases m
      all_goals (
        go_wp2
        go_ret
        exact ⟨rfl, hfin⟩)

theorem own : ownKnob Try.prog.godebug = none := by kernel_rfl
theorem laidOut : laidOutB Try.prog = true := by kernel_rfl

set_option maxRecDepth 100000 in
theorem lifted (os : Os) (started : os.Started) (H : Type) (enc : TypeId × Value → H) :
    ReturnsInHanded {} Try.checked os 8 .any (Rows.fnIsOfSpec.pre6 enc Try.prog Try.f8 Rows.fnIsOfRow.domain false) (Rows.fnIsOfSpec.post enc Try.prog Try.f8 false true false false) := by
  refine returnsInHanded_of_change (C := Try.checked) own started (by kernel_rfl) Try.func8
    (ChangeSpec.witness6 (enc := enc) (C := Try.checked) false ⟨#[], #[.slice none 0 0], []⟩ 8 (by kernel_rfl) (by kernel_rfl) (by kernel_rfl) (by kernel_rfl)) ?_
  intro W base args ds gs before hval0 hW hcnd _
  have hval : ∀ (j : Nat) t v, Try.f8.params[j]? = some t → args[j]? = some v → Value.okWide Try.prog W .any base t v := hval0
  have hW' := hW
  obtain ⟨p, q, hA0, hV, rfl, hfz, hnd⟩ := hW
  have hA : DataW.TrodAll enc Try.prog W 0 (fun _ => true) true Try.f8.params.toList args.toList ds p := hA0
  rw [Try.params8] at hA hval
  obtain ⟨v0, vs0, d0, ds0, p0, q0, hargs, rfl, rfl, h0, r0⟩ := trodAll_cons hA
  obtain ⟨rfl, rfl, rfl⟩ := trodAll_nil r0
  obtain rfl : args = #[v0] := by cases args; simp_all
  obtain ⟨rfl, rfl⟩ := trodVars_none hV
  obtain ⟨a0, len0, cap0, rfl⟩ := okWide_slice Try.underlying22 (hval 0 22 v0 rfl rfl)
  have k0 := h0
  have lt0 : ∀ x ∈ p0, x.block < W.heap.size := by obtain ⟨m, hm⟩ := k0; exact DataW.trod_lt m _ _ _ hm
  obtain ⟨hB, hM⟩ : RdB W W.heap.size a0 len0 ∧ len0 ≤ 9223372036854775807 := by
    obtain ⟨fuel, hf⟩ := h0
    rcases open_ints Try.underlying22 Try.underlying5 (by kernel_rfl) hf with ⟨hcs, _⟩ | ⟨x, l, c, zs, hcs, _, hl, hm, hz, _, hcell, hwz⟩
    · simp [Value.cells] at hcs
      obtain ⟨rfl, rfl, rfl⟩ := hcs
      exact ⟨fun h => absurd h (by omega), by omega⟩
    · simp [Value.cells] at hcs
      obtain ⟨rfl, rfl, rfl⟩ := hcs
      exact ⟨bytes_of hl (by simpa using hz) hcell hwz, by unfold maxLen at hm; omega⟩
  clear hA0 hval0
  refine (walk a0 len0 cap0 W hB hM).mono fun e W' ⟨he, bel⟩ => ?_
  subst he
  exact ⟨_, rfl, _, _, _, [], _, [], hW', trodAll_mk1 (shut_bool Try.underlying4 _), (trodAll_cons_mk (Below.trod laidOut (by kernel_rfl) (of_decide_eq_true (by kernel_rfl)) k0 bel lt0) trodAll_mk0), rfl, bel.frame _, fun h => by cases h⟩

theorem over : Rows.fnIsOfRow.holds Try.pinned (OpenSpec.ofChange Rows.fnIsOfSpec) :=
  OpenClaim.holds_of_wide 8 Try.f8 rfl rfl rfl rfl rfl rfl rfl ⟨rfl, rfl, rfl, rfl, rfl⟩ rfl rfl rfl rfl rfl (by kernel_rfl) Try.func8 (by kernel_rfl)
    (of_decide_eq_true (by kernel_rfl)) (by unfold Func.isWrapper; first | (rw [if_pos (by decide +kernel)]; kernel_rfl) | (rw [if_neg (by decide +kernel)]; exact ⟨rfl, rfl⟩))
    (fun os started H enc _ => lifted os started H enc)

theorem proved : Rows.FnIsOfSaid := over
#print axioms proved
end Go.Proofs.Ytnhmacmpobkdoaa.fnIsOf
