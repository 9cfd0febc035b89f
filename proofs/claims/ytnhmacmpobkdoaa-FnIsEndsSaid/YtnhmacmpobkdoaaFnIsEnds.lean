/- FnIsEnds: for every input the law returns true, and what came in is as it was. No conditions. -/
import Derived.Test.YtnhmacmpobkdoaaLawL
import Derived.Test.YtnhmacmpobkdoaaEnds
import Derived.Test.YtnhmacmpobkdoaaRows
import Derived.Deep.RegionHeld3
import Derived.Deep.RegionWith
import Derived.ProofKit
import Derived.OpenShut
import Derived.ShutString
import Derived.ChangeOld
namespace Go.Proofs.Ytnhmacmpobkdoaa.fnIsEnds
open Go.ChangeShapes Go.WideShapes Go.ChangeAt Go.RowKit
set_option linter.unusedVariables false

set_option maxHeartbeats 8000000 in
set_option maxRecDepth 100000 in
theorem walk (A : Option Addr) (n c : Nat) (w : World) (hA : RdB w w.heap.size A n) (hm : n ≤ 9223372036854775807) :
    Calls Try.prog 5 #[.slice A n c] w fun e w' => e = .returned (.bool true) ∧ Below w.heap.size w w' := by
  rcases Nat.lt_or_ge 1048576 n with hn | hn
  · have hnz : (1048576 : Int) < (n : Int) := by omega
    go_enter Try.func5, Try.ntmps5
    go_wp2
    go_ret
    exact ⟨rfl, Below.refl _ _⟩
  have hnz : ¬ ((1048576 : Int) < (n : Int)) := by omega
  go_enter Try.func5, Try.ntmps5
  have HLE := Lib.hid (letter_any w)
  go_wp2_with fail
  go_at_call 16
  refine HLE.out.mono ?_
  rintro e wa ⟨Al, cl, rfl, hRl, hbl0⟩
  have HLI := Lib.hid (letterIs_any Al cl wa hRl)
  go_wp2_with fail
  go_at_call 20
  refine HLI.out.mono ?_
  rintro e wl ⟨rfl, hbl1⟩
  have hbl := hbl0.trans (hbl1.mono hbl0.size)
  have hAl : RdB wl wl.heap.size A n := (hA.keep fun p hp => hbl.cell hp).more hbl.size
  clear HLE HLI hbl0 hbl1 hRl
  have HDR := Lib.hid (drawIs_any A n c wl hn hAl)
  go_wp2_with fail
  go_at_call 17
  refine HDR.out.mono ?_
  rintro e w1 ⟨A16, c16, A32, c32, a, b, tn, r, rfl, hT, hr0, hr1, hb1⟩
  clear HDR
  have na : A16 = none → a.length = 0 ∧ c16 = 0 := own_nil hT.1
  have nb : A32 = none → b.length = 0 ∧ c32 = 0 := own_nil hT.2.1
  have hb0w := hbl.trans (hb1.mono hbl.size)
  have hal := (Below.refl w1.heap.size w1).alloc (Nat.le_refl _) (.cells #[.slice A16 a.length c16, .slice A32 b.length c32, .int .i64 tn] 27)
  have hnb := Bk.new w1 27 #[.slice A16 a.length c16, .slice A32 b.length c32, .int .i64 tn]
  have ra0 := hT.rd16.to hal
  have rb0 := hT.rd32.to hal
  have la : a.length ≤ 40 := hT.2.2.2.2.1
  have lb : b.length ≤ 40 := hT.2.2.2.2.2
  have hbW := hb0w.trans (hal.mono hb0w.size)
  have hszW : (w1.alloc (.cells #[.slice A16 a.length c16, .slice A32 b.length c32, .int .i64 tn] 27)).heap.size = w1.heap.size + 1 := by simp
  go_wp2_with fail
  generalize hW : w1.alloc (.cells #[.slice A16 a.length c16, .slice A32 b.length c32, .int .i64 tn] 27) = W at *
  have HW := Lib.hid hW; clear hW hb0w hT hb1 hal hbl
  have hsz0 : w1.heap.size < W.heap.size := by omega
  have keepS : ∀ w', Below W.heap.size W w' → w'.cell? ⟨w1.heap.size, 0, none⟩ = some (.slice A16 a.length c16) ∧ w'.cell? ⟨w1.heap.size, 1, none⟩ = some (.slice A32 b.length c32) ∧ w'.cell? ⟨w1.heap.size, 2, none⟩ = some (.int .i64 tn) ∧ Below W.heap.size W w' := fun w' h => by
    have hb := hnb.below h hsz0
    exact ⟨by rw [hb.cell]; rfl, by rw [hb.cell]; rfl, by rw [hb.cell]; rfl, h⟩
  have KS := Lib.hid keepS; clear keepS hnb hszW
  have hW0 : Below W.heap.size W W := Below.refl _ _
  cases h1 : validB ⟨a, b, tn⟩
  · obtain ⟨y0, y1, y2, -⟩ := KS.out W hW0
    first
      | (go_region_with (first
        | (go_at_call 22; refine (valid_any A16 A32 c16 c32 a b tn _ (by omega) (by omega) (ra0.to (Below.refl _ _).drew) (rb0.to (Below.refl _ _).drew)).mono ?_; rintro e wn ⟨rfl, hbn⟩)))
      | fail
    all_goals (
      go_wp2
      go_ret
      exact ⟨rfl, hbW.trans ((Below.refl _ _).drew.trans hbn |>.mono hbW.size)⟩)
  obtain ⟨v1, v2, -⟩ := validB_true h1
  have sa := v1.stp ra0.wf
  have sb := v2.stp rb0.wf
  have u1 := (srt_endsL v1.srtR sa).srt
  have u2 := (srt_endsL v2.srtR sb).srt
  have hC : isB ⟨endsL a, endsL b, latN (endsL a)⟩ r = isB ⟨a, b, tn⟩ r := by simp only [isB, mem_endsL sa, mem_endsL sb]
  have HC := Lib.hid hC; clear hC
  cases hM : isB ⟨a, b, tn⟩ r
  all_goals (
    have hN := HC.out.trans hM
    go_region_held3 (fun w' => w'.cell? ⟨w1.heap.size, 0, none⟩ = some (.slice A16 a.length c16) ∧ w'.cell? ⟨w1.heap.size, 1, none⟩ = some (.slice A32 b.length c32) ∧ w'.cell? ⟨w1.heap.size, 2, none⟩ = some (.int .i64 tn) ∧ Below W.heap.size W w')
      (first
        | exact KS.out _ (by assumption)
        | exact KS.out _ (Below.drew (by assumption)))
      (first
        | (go_at_call 22; go_split_ands; refine (valid_any A16 A32 c16 c32 a b tn _ (by omega) (by omega) (ra0.to (by assumption)) (rb0.to (by assumption))).mono ?_; rintro e wn ⟨rfl, hbn⟩; have hqn := chain (W := W) hbn (by assumption))
        | (go_at_call 23; go_split_ands; refine (ends_any A16 A32 c16 c32 a b tn _ la lb (ra0.to (by assumption)) (rb0.to (by assumption)) sa sb na nb).mono ?_; rintro e wn hmade; obtain ⟨Aq, cq, Bq, dq, rfl, rq, sq, hbn⟩ := hmade.rd16; have hqn := chain (W := W) hbn (by assumption))
        | (go_at_call 20; go_split_ands; refine (implIs_any A16 A32 c16 c32 a b tn r _ hr0 hr1 v1 v2 (ra0.to (by assumption)) (rb0.to (by assumption))).mono ?_; rintro e wn ⟨rfl, hbn⟩; have hqn := chain (W := W) hbn (by assumption))
        | (go_at_call 20; go_split_ands; refine (implIs_any Aq Bq cq dq (endsL a) (endsL b) (latN (endsL a)) r _ hr0 hr1 u1 u2 (by first | exact rq | exact rq.to (by assumption)) (by first | exact sq | exact sq.to (by assumption))).mono ?_; rintro e wn ⟨rfl, hbn⟩; have hqn := chain (W := W) hbn (by assumption)))
    all_goals (
      go_wp2
      go_ret
      refine ⟨rfl, hbW.trans (Below.mono ?_ hbW.size)⟩
      go_split_ands
      assumption))

theorem own : ownKnob Try.prog.godebug = none := by kernel_rfl
theorem laidOut : laidOutB Try.prog = true := by kernel_rfl

set_option maxRecDepth 100000 in
theorem lifted (os : Os) (started : os.Started) (H : Type) (enc : TypeId × Value → H) :
    ReturnsInHanded {} Try.checked os 5 .any (Rows.fnIsEndsSpec.pre6 enc Try.prog Try.f5 Rows.fnIsEndsRow.domain false) (Rows.fnIsEndsSpec.post enc Try.prog Try.f5 false true false false) := by
  refine returnsInHanded_of_change (C := Try.checked) own started (by kernel_rfl) Try.func5
    (ChangeSpec.witness6 (enc := enc) (C := Try.checked) false ⟨#[], #[.slice none 0 0], []⟩ 8 (by kernel_rfl) (by kernel_rfl) (by kernel_rfl) (by kernel_rfl)) ?_
  intro W base args ds gs before hval0 hW hcnd _
  have hval : ∀ (j : Nat) t v, Try.f5.params[j]? = some t → args[j]? = some v → Value.okWide Try.prog W .any base t v := hval0
  have hW' := hW
  obtain ⟨p, q, hA0, hV, rfl, hfz, hnd⟩ := hW
  have hA : DataW.TrodAll enc Try.prog W 0 (fun _ => true) true Try.f5.params.toList args.toList ds p := hA0
  rw [Try.params5] at hA hval
  obtain ⟨v0, vs0, d0, ds0, p0, q0, hargs, rfl, rfl, h0, r0⟩ := trodAll_cons hA
  obtain ⟨rfl, rfl, rfl⟩ := trodAll_nil r0
  obtain rfl : args = #[v0] := by cases args; simp_all
  obtain ⟨rfl, rfl⟩ := trodVars_none hV
  obtain ⟨a0, len0, cap0, rfl⟩ := okWide_slice Try.underlying22 (hval 0 22 v0 rfl rfl)
  have k0 := h0
  have lt0 : ∀ x ∈ p0, x.block < W.heap.size := by obtain ⟨m, hm⟩ := k0; exact DataW.trod_lt m _ _ _ hm
  obtain ⟨hB, hM⟩ : RdB W W.heap.size a0 len0 ∧ len0 ≤ 9223372036854775807 := by
    obtain ⟨fuel, hf⟩ := h0
    rcases open_ints Try.underlying22 Try.underlying5 (by kernel_rfl) hf with ⟨hcs, _⟩ | ⟨x, l, c, zs, hcs, _, hl, hm, hz, _, hcell, hwz⟩
    · simp [Value.cells] at hcs
      obtain ⟨rfl, rfl, rfl⟩ := hcs
      exact ⟨fun h => absurd h (by omega), by omega⟩
    · simp [Value.cells] at hcs
      obtain ⟨rfl, rfl, rfl⟩ := hcs
      exact ⟨bytes_of hl (by simpa using hz) hcell hwz, by unfold maxLen at hm; omega⟩
  clear hA0 hval0
  refine (walk a0 len0 cap0 W hB hM).mono fun e W' ⟨he, bel⟩ => ?_
  subst he
  exact ⟨_, rfl, _, _, _, [], _, [], hW', trodAll_mk1 (shut_bool Try.underlying4 _), (trodAll_cons_mk (Below.trod laidOut (by kernel_rfl) (of_decide_eq_true (by kernel_rfl)) k0 bel lt0) trodAll_mk0), rfl, bel.frame _, fun h => by cases h⟩

theorem over : Rows.fnIsEndsRow.holds Try.pinned (OpenSpec.ofChange Rows.fnIsEndsSpec) :=
  OpenClaim.holds_of_wide 5 Try.f5 rfl rfl rfl rfl rfl rfl rfl ⟨rfl, rfl, rfl, rfl, rfl⟩ rfl rfl rfl rfl rfl (by kernel_rfl) Try.func5 (by kernel_rfl)
    (of_decide_eq_true (by kernel_rfl)) (by unfold Func.isWrapper; first | (rw [if_pos (by decide +kernel)]; kernel_rfl) | (rw [if_neg (by decide +kernel)]; exact ⟨rfl, rfl⟩))
    (fun os started H enc _ => lifted os started H enc)

theorem proved : Rows.FnIsEndsSaid := over
#print axioms proved
end Go.Proofs.Ytnhmacmpobkdoaa.fnIsEnds
