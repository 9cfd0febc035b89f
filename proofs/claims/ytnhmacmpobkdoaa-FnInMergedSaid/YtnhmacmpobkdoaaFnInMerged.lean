/- FnInMerged: for every input the law returns true, and what came in is as it was. No conditions. -/
import Derived.Test.YtnhmacmpobkdoaaMrgL
import Derived.Test.YtnhmacmpobkdoaaCount
import Derived.Test.YtnhmacmpobkdoaaImpl
import Derived.Test.YtnhmacmpobkdoaaRows
import Derived.Deep.RegionHeld3
import Derived.Deep.RegionWith
import Derived.ProofKit
import Derived.OpenShut
import Derived.ShutString
import Derived.ChangeOld
namespace Go.Proofs.Ytnhmacmpobkdoaa.fnInMerged
open Go.ChangeShapes Go.WideShapes Go.ChangeAt Go.RowKit
set_option linter.unusedVariables false

set_option maxHeartbeats 8000000 in
set_option maxRecDepth 100000 in
theorem walk (A : Option Addr) (n c : Nat) (w : World) (hA : RdB w w.heap.size A n) (hm : n ≤ 9223372036854775807) :
    Calls Try.prog 14 #[.slice A n c] w fun e w' => e = .returned (.bool true) ∧ Below w.heap.size w w' := by
  rcases Nat.lt_or_ge 1048576 n with hn | hn
  · have hnz : (1048576 : Int) < (n : Int) := by omega
    go_enter Try.func14, Try.ntmps14
    go_wp2
    go_ret
    exact ⟨rfl, Below.refl _ _⟩
  have hnz : ¬ ((1048576 : Int) < (n : Int)) := by omega
  go_enter Try.func14, Try.ntmps14
  have HLE := Lib.hid (letter_any w)
  go_wp2_with fail
  go_at_call 16
  refine HLE.out.mono ?_
  rintro e wa ⟨Al, cl, rfl, hRl, hbl0⟩
  have HLI := Lib.hid (letterIn_any Al cl wa hRl)
  go_wp2_with fail
  go_at_call 15
  refine HLI.out.mono ?_
  rintro e wl ⟨rfl, hbl1⟩
  have hbl := hbl0.trans (hbl1.mono hbl0.size)
  have hAl : RdB wl wl.heap.size A n := (hA.keep fun p hp => hbl.cell hp).more hbl.size
  clear HLE HLI hbl0 hbl1 hRl
  have HDR := Lib.hid (drawIn_own A n c wl hn hAl)
  go_wp2_with fail
  go_at_call 34
  refine HDR.out.mono ?_
  rintro e W ⟨A', c', ts, r, rfl, htl, hT, hsm, ⟨hc0, hc1⟩, hat, hr0, hr1, hb1⟩
  clear HDR
  have hbW := hbl.trans (hb1.mono hbl.size)
  clear hbl hb1
  have HG := Lib.hid (allGood_any A' c' ts W (by omega) hT)
  go_wp2_with fail
  go_at_call 35
  refine HG.out.mono ?_
  rintro e wg ⟨rfl, hq⟩
  clear HG
  cases h1 : allGoodB ts
  · have hfin := hbW.trans (hq.mono hbW.size)
    go_wp2
    go_ret
    exact ⟨rfl, hfin⟩
  obtain ⟨hs, hp⟩ := allGoodB_true h1
  clear h1
  by_cases h2 : 2 ≤ ts.length
  · obtain ⟨g, rfl⟩ : ∃ g, A' = some ⟨g, 0, none⟩ := by
      rcases hat with ⟨-, h1, -⟩ | h
      · exfalso; rw [h1] at h2; simp at h2
      · exact h
    obtain ⟨g0, o0, t0, A0, c0, B0, d0, eA0, hg0, hx0, k00, k01, k02, r0, s0, -, -⟩ := hT.at_ (i := 0) (by omega)
    injection eA0 with eA0
    injection eA0 with f01 f02
    subst f01 f02
    obtain ⟨v01, v02⟩ := hs.at_ hx0
    obtain ⟨l01, l02⟩ := hsm _ (List.mem_of_getElem? hx0)
    have p01 := v01.stp r0.wf
    have p02 := v02.stp s0.wf
    obtain ⟨g1, o1, t1, A1, c1, B1, d1, eA1, hg1, hx1, k10, k11, k12, r1, s1, -, -⟩ := hT.at_ (i := 1) (by omega)
    injection eA1 with eA1
    injection eA1 with f11 f12
    subst f11 f12
    obtain ⟨v11, v12⟩ := hs.at_ hx1
    obtain ⟨l11, l12⟩ := hsm _ (List.mem_of_getElem? hx1)
    have p11 := v11.stp r1.wf
    have p12 := v12.stp s1.wf
    have ht2 := take2 hx0 hx1
    have hany : (ts.take 2).any (isB · r) = (isB t0 r || isB t1 r) := by rw [ht2]; simp
    have hlen2 : (ts.take 2).length = 2 := by rw [ht2]; rfl
    have HANY := Lib.hid hany; have HTK := Lib.hid hlen2
    have HTL : Go.RowKit.Hid ((ts.take 2).length ≤ 5) := Lib.hid (by rw [hlen2]; omega)
    clear hany hlen2 ht2 hx0 hx1 hat
    have HT := Lib.hid hT; have HS := Lib.hid hs; clear hT hs hp hsm
    simp at k00 k01 k02 k10 k11 k12
    have kS : ∀ w', Below W.heap.size W w' → w'.cell? ⟨g, 0, none⟩ = some (.slice A0 t0.a.length c0) ∧ w'.cell? ⟨g, 1, none⟩ = some (.slice B0 t0.b.length d0) ∧ w'.cell? ⟨g, 2, none⟩ = some (.int .i64 t0.n) ∧ w'.cell? ⟨g, 3, none⟩ = some (.slice A1 t1.a.length c1) ∧ w'.cell? ⟨g, 4, none⟩ = some (.slice B1 t1.b.length d1) ∧ w'.cell? ⟨g, 5, none⟩ = some (.int .i64 t1.n) ∧ Below W.heap.size W w' := fun w' h => ⟨(h.cell (p := ⟨g, _, none⟩) hg0).trans k00, (h.cell (p := ⟨g, _, none⟩) hg0).trans k01, (h.cell (p := ⟨g, _, none⟩) hg0).trans k02, (h.cell (p := ⟨g, _, none⟩) hg0).trans k10, (h.cell (p := ⟨g, _, none⟩) hg0).trans k11, (h.cell (p := ⟨g, _, none⟩) hg0).trans k12, h⟩
    have KS := Lib.hid kS; clear kS k00 k01 k02 k10 k11 k12
    obtain ⟨y0, y1, y2, y3, y4, y5, -⟩ := KS.out wg hq
    have q0 : (0 : Int) < (ts.length : Int) := by omega
    have q1 : (1 : Int) < (ts.length : Int) := by omega
    have q2 : ¬ ((ts.length : Int) < 2) := by omega
    have q3 : decide ((ts.length : Int) < 2) = false := by simp; omega
    have q4 : (2 : Int) ≤ (c' : Int) := by omega
    have q5 : decide (ts.length < 2) = false := by simp; omega
    have q6 : 0 < ts.length := by omega
    have q7 : 1 < ts.length := by omega
    go_wp2_with fail
    go_region_held3 (fun w' => w'.cell? ⟨g, 0, none⟩ = some (.slice A0 t0.a.length c0) ∧ w'.cell? ⟨g, 1, none⟩ = some (.slice B0 t0.b.length d0) ∧ w'.cell? ⟨g, 2, none⟩ = some (.int .i64 t0.n) ∧ w'.cell? ⟨g, 3, none⟩ = some (.slice A1 t1.a.length c1) ∧ w'.cell? ⟨g, 4, none⟩ = some (.slice B1 t1.b.length d1) ∧ w'.cell? ⟨g, 5, none⟩ = some (.int .i64 t1.n) ∧ Below W.heap.size W w')
      (first
        | exact KS.out _ (by assumption)
        | exact KS.out _ (Below.drew (by assumption)))
      (first
        | (go_at_call 30; go_split_ands; (with_reducible refine (count_any A0 B0 c0 d0 t0.a t0.b t0.n _ l01 l02 (r0.to (by assumption)) (s0.to (by assumption)) p01 p02).mono ?_); rintro e wn ⟨z0, rfl, z00, z01, hbn⟩; have hqn := chain (W := W) hbn (by assumption))
        | (go_at_call 30; go_split_ands; (with_reducible refine (count_any A1 B1 c1 d1 t1.a t1.b t1.n _ l11 l12 (r1.to (by assumption)) (s1.to (by assumption)) p11 p12).mono ?_); rintro e wn ⟨z1, rfl, z10, z11, hbn⟩; have hqn := chain (W := W) hbn (by assumption)))
    go_split_ands
    go_wp2_with fail
    · go_ret
      refine ⟨rfl, hbW.trans (Below.mono ?_ hbW.size)⟩
      go_split_ands
      assumption
    · have hq9 : Below W.heap.size W wn := by assumption
      cases hM : (ts.take 2).any (isB · r)
      all_goals (
        go_wp2_with fail
        go_region_held3 (fun w' => w'.cell? ⟨g, 0, none⟩ = some (.slice A0 t0.a.length c0) ∧ w'.cell? ⟨g, 1, none⟩ = some (.slice B0 t0.b.length d0) ∧ w'.cell? ⟨g, 2, none⟩ = some (.int .i64 t0.n) ∧ w'.cell? ⟨g, 3, none⟩ = some (.slice A1 t1.a.length c1) ∧ w'.cell? ⟨g, 4, none⟩ = some (.slice B1 t1.b.length d1) ∧ w'.cell? ⟨g, 5, none⟩ = some (.int .i64 t1.n) ∧ Below W.heap.size W w')
          (first
            | exact KS.out _ (by assumption)
            | exact KS.out _ (Below.drew (by assumption)))
          (first
            | (go_at_call 15; go_split_ands; (with_reducible refine (implIn_seg _ _ _ (ts.take 2) r _ hr0 hr1 (HS.out.take 2) HTK.out HTL.out ((HT.out.take 2).to (by assumption))).mono ?_); rintro e wk ⟨rfl, hbn⟩; have hqn := chain (W := W) hbn (by assumption))
            | (go_at_call 36; go_split_ands; (with_reducible refine (merged_any A0 B0 c0 d0 t0.a t0.b t0.n A1 B1 c1 d1 t1.a t1.b t1.n _ l01 l02 l11 l12 (r0.to (by assumption)) (s0.to (by assumption)) (r1.to (by assumption)) (s1.to (by assumption)) p01 p02 p11 p12 (hi_le v02) (hi_le v12) (asc_members v01 v02 p01 p02) (asc_members v11 v12 p11 p12) (cps_members v01 v02 p01 p02) (cps_members v11 v12 p11 p12) (len_members v01 v02 p01 p02 l01 l02) (len_members v11 v12 p11 p12 l11 l12)).mono ?_); rintro e wm ⟨zs, za, zc, zm, zl, hmade⟩; obtain ⟨Aq, cq, Bq, dq, rfl, rq, sq, hbn⟩ := hmade.rd16; have hqn := chain (W := W) hbn (by assumption); have hN := (mrg_is (m := latN (ofA zs)) (r := r) p01 p02 p11 p12 zm).trans (HANY.out.symm.trans hM); have HCI := Lib.hid (implIs_any Aq Bq cq dq (ofA zs) (ofB zs) (latN (ofA zs)) r wm hr0 hr1 (srt_ofA za zc) (srt_ofB za zc) rq sq); clear zm za zc zl hmade rq sq)
            | (go_at_call 20; go_split_ands; refine HCI.out.mono ?_; rintro e wn ⟨rfl, hbn⟩; have hqn := chain (W := W) hbn (by assumption)))
        all_goals (
          go_wp2
          go_ret
          refine ⟨rfl, hbW.trans (Below.mono ?_ hbW.size)⟩
          go_split_ands
          assumption))
  · have q3 : decide ((ts.length : Int) < 2) = true := by simp; omega
    have q5 : decide (ts.length < 2) = true := by simp; omega
    have hfin := hbW.trans (hq.drew.mono hbW.size)
    go_wp2_with fail
    first
      | (go_region_with (first | (go_at_call 30; fail)))
      | fail
    all_goals (
      go_wp2
      go_ret
      exact ⟨rfl, hfin⟩)

theorem own : ownKnob Try.prog.godebug = none := by kernel_rfl
theorem laidOut : laidOutB Try.prog = true := by kernel_rfl

set_option maxRecDepth 100000 in
theorem lifted (os : Os) (started : os.Started) (H : Type) (enc : TypeId × Value → H) :
    ReturnsInHanded {} Try.checked os 14 .any (Rows.fnInMergedSpec.pre6 enc Try.prog Try.f14 Rows.fnInMergedRow.domain false) (Rows.fnInMergedSpec.post enc Try.prog Try.f14 false true false false) := by
  refine returnsInHanded_of_change (C := Try.checked) own started (by kernel_rfl) Try.func14
    (ChangeSpec.witness6 (enc := enc) (C := Try.checked) false ⟨#[], #[.slice none 0 0], []⟩ 8 (by kernel_rfl) (by kernel_rfl) (by kernel_rfl) (by kernel_rfl)) ?_
  intro W base args ds gs before hval0 hW hcnd _
  have hval : ∀ (j : Nat) t v, Try.f14.params[j]? = some t → args[j]? = some v → Value.okWide Try.prog W .any base t v := hval0
  have hW' := hW
  obtain ⟨p, q, hA0, hV, rfl, hfz, hnd⟩ := hW
  have hA : DataW.TrodAll enc Try.prog W 0 (fun _ => true) true Try.f14.params.toList args.toList ds p := hA0
  rw [Try.params14] at hA hval
  obtain ⟨v0, vs0, d0, ds0, p0, q0, hargs, rfl, rfl, h0, r0⟩ := trodAll_cons hA
  obtain ⟨rfl, rfl, rfl⟩ := trodAll_nil r0
  obtain rfl : args = #[v0] := by cases args; simp_all
  obtain ⟨rfl, rfl⟩ := trodVars_none hV
  obtain ⟨a0, len0, cap0, rfl⟩ := okWide_slice Try.underlying22 (hval 0 22 v0 rfl rfl)
  have k0 := h0
  have lt0 : ∀ x ∈ p0, x.block < W.heap.size := by obtain ⟨m, hm⟩ := k0; exact DataW.trod_lt m _ _ _ hm
  obtain ⟨hB, hM⟩ : RdB W W.heap.size a0 len0 ∧ len0 ≤ 9223372036854775807 := by
    obtain ⟨fuel, hf⟩ := h0
    rcases open_ints Try.underlying22 Try.underlying5 (by kernel_rfl) hf with ⟨hcs, _⟩ | ⟨x, l, c, zs, hcs, _, hl, hm, hz, _, hcell, hwz⟩
    · simp [Value.cells] at hcs
      obtain ⟨rfl, rfl, rfl⟩ := hcs
      exact ⟨fun h => absurd h (by omega), by omega⟩
    · simp [Value.cells] at hcs
      obtain ⟨rfl, rfl, rfl⟩ := hcs
      exact ⟨bytes_of hl (by simpa using hz) hcell hwz, by unfold maxLen at hm; omega⟩
  clear hA0 hval0
  refine (walk a0 len0 cap0 W hB hM).mono fun e W' ⟨he, bel⟩ => ?_
  subst he
  exact ⟨_, rfl, _, _, _, [], _, [], hW', trodAll_mk1 (shut_bool Try.underlying4 _), (trodAll_cons_mk (Below.trod laidOut (by kernel_rfl) (of_decide_eq_true (by kernel_rfl)) k0 bel lt0) trodAll_mk0), rfl, bel.frame _, fun h => by cases h⟩

theorem over : Rows.fnInMergedRow.holds Try.pinned (OpenSpec.ofChange Rows.fnInMergedSpec) :=
  OpenClaim.holds_of_wide 14 Try.f14 rfl rfl rfl rfl rfl rfl rfl ⟨rfl, rfl, rfl, rfl, rfl⟩ rfl rfl rfl rfl rfl (by kernel_rfl) Try.func14 (by kernel_rfl)
    (of_decide_eq_true (by kernel_rfl)) (by unfold Func.isWrapper; first | (rw [if_pos (by decide +kernel)]; kernel_rfl) | (rw [if_neg (by decide +kernel)]; exact ⟨rfl, rfl⟩))
    (fun os started H enc _ => lifted os started H enc)

theorem proved : Rows.FnInMergedSaid := over
#print axioms proved
end Go.Proofs.Ytnhmacmpobkdoaa.fnInMerged
