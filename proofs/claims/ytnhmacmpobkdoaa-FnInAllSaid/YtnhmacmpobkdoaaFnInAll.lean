/- FnInAll: for every input the law returns true, and what came in is as it was. No conditions. -/
import Derived.Test.YtnhmacmpobkdoaaLawA
import Derived.Test.YtnhmacmpobkdoaaFine
import Derived.Test.YtnhmacmpobkdoaaRest
import Derived.Test.YtnhmacmpobkdoaaPlainH
import Derived.Test.YtnhmacmpobkdoaaTwo
import Derived.Test.YtnhmacmpobkdoaaRows
import Derived.Deep.RegionHeld3
import Derived.Deep.RegionWith
import Derived.ProofKit
import Derived.OpenShut
import Derived.ShutString
import Derived.ChangeOld
namespace Go.Proofs.Ytnhmacmpobkdoaa.fnInAll
open Go.ChangeShapes Go.WideShapes Go.ChangeAt Go.RowKit
set_option linter.unusedVariables false

set_option maxHeartbeats 8000000 in
set_option maxRecDepth 100000 in
theorem walk (A : Option Addr) (n c : Nat) (w : World) (hA : RdB w w.heap.size A n) (hm : n ≤ 9223372036854775807) :
    Calls Try.prog 12 #[.slice A n c] w fun e w' => e = .returned (.bool true) ∧ Below w.heap.size w w' := by
  rcases Nat.lt_or_ge 1048576 n with hn | hn
  · have hnz : (1048576 : Int) < (n : Int) := by omega
    go_enter Try.func12, Try.ntmps12
    go_wp2
    go_ret
    exact ⟨rfl, Below.refl _ _⟩
  have hnz : ¬ ((1048576 : Int) < (n : Int)) := by omega
  go_enter Try.func12, Try.ntmps12
  have HDR := Lib.hid (drawIs_any A n c w hn hA)
  go_wp2_with fail
  go_at_call 17
  refine HDR.out.mono ?_
  rintro e w1 ⟨A16, c16, A32, c32, a, b, tn, r, rfl, hT, hr0, hr1, hb1⟩
  clear HDR
  have na : A16 = none → a.length = 0 ∧ c16 = 0 := own_nil hT.1
  have nb : A32 = none → b.length = 0 ∧ c32 = 0 := own_nil hT.2.1
  have hb0w := hb1
  have hal := (Below.refl w1.heap.size w1).alloc (Nat.le_refl _) (.cells #[.slice A16 a.length c16, .slice A32 b.length c32, .int .i64 tn] 27)
  have hnb := Bk.new w1 27 #[.slice A16 a.length c16, .slice A32 b.length c32, .int .i64 tn]
  have ra0 := hT.rd16.to hal
  have rb0 := hT.rd32.to hal
  have la : a.length ≤ 40 := hT.2.2.2.2.1
  have lb : b.length ≤ 40 := hT.2.2.2.2.2
  have hbW := hb0w.trans (hal.mono hb0w.size)
  have hszW : (w1.alloc (.cells #[.slice A16 a.length c16, .slice A32 b.length c32, .int .i64 tn] 27)).heap.size = w1.heap.size + 1 := by simp
  go_wp2_with fail
  generalize hW : w1.alloc (.cells #[.slice A16 a.length c16, .slice A32 b.length c32, .int .i64 tn] 27) = W at *
  have HW := Lib.hid hW; clear hW hb0w hT hb1 hal
  have hsz0 : w1.heap.size < W.heap.size := by omega
  have keepS : ∀ w', Below W.heap.size W w' → w'.cell? ⟨w1.heap.size, 0, none⟩ = some (.slice A16 a.length c16) ∧ w'.cell? ⟨w1.heap.size, 1, none⟩ = some (.slice A32 b.length c32) ∧ w'.cell? ⟨w1.heap.size, 2, none⟩ = some (.int .i64 tn) ∧ Below W.heap.size W w' := fun w' h => by
    have hb := hnb.below h hsz0
    exact ⟨by rw [hb.cell]; rfl, by rw [hb.cell]; rfl, by rw [hb.cell]; rfl, h⟩
  have KS := Lib.hid keepS; clear keepS hnb hszW
  have hW0 : Below W.heap.size W W := Below.refl _ _
  have HG := Lib.hid (good_any A16 A32 c16 c32 a b tn W (by omega) (by omega) ra0 rb0)
  go_at_call 18
  refine HG.out.mono ?_
  rintro e wg ⟨rfl, hq⟩
  clear HG
  cases h1 : goodB ⟨a, b, tn⟩
  · have hfin := hbW.trans (hq.mono hbW.size)
    go_wp2
    go_ret
    exact ⟨rfl, hfin⟩
  obtain ⟨v1, v2, td1, td2, hlat⟩ := goodB_true h1
  have HLAT := Lib.hid hlat; have TD1 := Lib.hid td1; have TD2 := Lib.hid td2
  clear hlat td1 td2 h1
  obtain ⟨y0, y1, y2, -⟩ := KS.out wg hq
  have sa := v1.stp ra0.wf
  have sb := v2.stp rb0.wf
  have e1 := srt_endsL v1.srtR sa
  have e2 := srt_endsL v2.srtR sb
  have u1 := (srt_fineL e1).srt
  have u2 := (srt_fineL e2).srt
  have HC3 := Lib.hid (fine_any A16 A32 c16 c32 a b tn wg la lb (ra0.to hq) (rb0.to hq) sa sb na nb)
  go_wp2_with fail
  go_at_call 24
  refine HC3.out.mono ?_
  rintro e w3 hmade
  obtain ⟨Aq, cq, Bq, dq, rfl, rq, sq, hbn3⟩ := hmade.rd16
  have hq3 := chain (W := W) hbn3 hq
  clear HC3 hbn3 hmade
  have t1 := st1_fineL (endsL a)
  have t2 := st1_fineL (endsL b)
  have lp : (fineL (endsL a)).length ≤ 40 := by unfold fineL endsL; rw [List.length_map, List.length_map]; exact la
  have lq : (fineL (endsL b)).length ≤ 40 := by unfold fineL endsL; rw [List.length_map, List.length_map]; exact lb
  clear e1 e2 y0 y1 y2
  generalize fineL (endsL a) = p at *
  generalize fineL (endsL b) = q at *
  have g1 := (srt_gapsL u1.srtR).srt
  have g2 := (srt_gapsL u2.srtR).srt
  have lg1 := gapsL_length 65535 p 0
  have lg2 := gapsL_length 1114111 q 65536
  have hal := (Below.refl w3.heap.size w3).alloc (Nat.le_refl _) (.cells #[.slice Aq p.length cq, .slice Bq q.length dq, .int .i64 (latN p)] 27)
  have hB5 := Bk.new w3 27 #[.slice Aq p.length cq, .slice Bq q.length dq, .int .i64 (latN p)]
  have rq0 := rq.to hal
  have sq0 := sq.to hal
  have hqV := hq3.trans (hal.mono hq3.size)
  have hX5l := hB5.lt
  go_wp2_with fail
  generalize hV : w3.alloc (.cells #[.slice Aq p.length cq, .slice Bq q.length dq, .int .i64 (latN p)] 27) = V at *
  clear hV rq sq hal
  generalize hX5 : w3.heap.size = X5 at *
  clear hX5 hq3
  have kV : ∀ w', Below V.heap.size V w' → w'.cell? ⟨X5, 0, none⟩ = some (.slice Aq p.length cq) ∧ w'.cell? ⟨X5, 1, none⟩ = some (.slice Bq q.length dq) ∧ w'.cell? ⟨X5, 2, none⟩ = some (.int .i64 (latN p)) ∧ Below V.heap.size V w' := fun w' h => by
    have hb := hB5.below h hX5l
    exact ⟨hb.cell 0, hb.cell 1, hb.cell 2, h⟩
  have KV := Lib.hid kV; clear kV hB5
  obtain ⟨y0, y1, y2, hV0⟩ := KV.out V (Below.refl _ _)
  have hsrt : SrtT [⟨p, q, latN p⟩, ⟨gapsL 65535 0 p, gapsL 1114111 65536 q, latN (gapsL 65535 0 p)⟩] := fun t ht => by
    simp at ht
    rcases ht with rfl | rfl
    · exact ⟨u1, u2⟩
    · exact ⟨g1, g2⟩
  by_cases h0 : 0 ≤ r
  · have h0b : decide (0 ≤ r) = true := by simp; omega
    by_cases h1 : r ≤ 1114111
    · have h1b : decide (r ≤ 1114111) = true := by simp; omega
      have hin := rest_in (n := latN p) (m := latN (gapsL 65535 0 p)) u1 u2 t1 t2 (r := r) h0 h1
      have hany : [(⟨p, q, latN p⟩ : Tab), ⟨gapsL 65535 0 p, gapsL 1114111 65536 q, latN (gapsL 65535 0 p)⟩].any (isB · r) = true := by simp only [List.any_cons, List.any_nil, hin]; cases isB ⟨p, q, latN p⟩ r <;> rfl
      clear hin
      go_wp2_with fail
      go_region_held3 (fun w' => w'.cell? ⟨X5, 0, none⟩ = some (.slice Aq p.length cq) ∧ w'.cell? ⟨X5, 1, none⟩ = some (.slice Bq q.length dq) ∧ w'.cell? ⟨X5, 2, none⟩ = some (.int .i64 (latN p)) ∧ Below V.heap.size V w')
        (first
          | exact KV.out _ (by assumption)
          | exact KV.out _ (Below.drew (by assumption))
          | (go_split_ands; exact KV.out _ (bel_alloc (by assumption))))
        (first
          | (go_at_call 29; go_split_ands; refine (rest_any Aq Bq cq dq p q (latN p) _ lp lq (rq0.to (by assumption)) (sq0.to (by assumption))).mono ?_; rintro e wn hmade; obtain ⟨Az, cz, Bz, dz, rfl, rz, sz, hbn⟩ := hmade.rd16; clear hmade; have hqn := chain (W := V) hbn (by assumption))
          | (go_at_call 15; go_split_ands; refine (implIn_any _ 2 [⟨p, q, latN p⟩, ⟨gapsL 65535 0 p, gapsL 1114111 65536 q, latN (gapsL 65535 0 p)⟩] r _ hr0 hr1 (by simp) hsrt (two_list (Bk.new wn _ _) (rq0.to (bel_alloc hqn)) (sq0.to (bel_alloc hqn)) (rz.to (bel_alloc (Below.refl _ _))) (sz.to (bel_alloc (Below.refl _ _))) ⟨by simp only; omega, by simp only; omega⟩ ⟨by simp only; omega, by simp only; omega⟩)).mono ?_; rintro e wm ⟨rfl, hbm⟩; have hqm := chain (W := V) hbm (bel_alloc hqn)))
      all_goals (
        go_wp2
        go_ret
        refine ⟨rfl, hbW.trans ((hqV.trans (Below.mono ?_ hqV.size)).mono hbW.size)⟩
        go_split_ands
        assumption)
    · have h1b : decide (r ≤ 1114111) = false := by simp; omega
      have hany : [(⟨p, q, latN p⟩ : Tab), ⟨gapsL 65535 0 p, gapsL 1114111 65536 q, latN (gapsL 65535 0 p)⟩].any (isB · r) = false := by simp only [List.any_cons, List.any_nil, rest_out u1 u2 (.inr (by omega : 1114111 < r)), rest_out g1 g2 (.inr (by omega : 1114111 < r)), Bool.or_false]
      go_wp2_with fail
      go_region_held3 (fun w' => w'.cell? ⟨X5, 0, none⟩ = some (.slice Aq p.length cq) ∧ w'.cell? ⟨X5, 1, none⟩ = some (.slice Bq q.length dq) ∧ w'.cell? ⟨X5, 2, none⟩ = some (.int .i64 (latN p)) ∧ Below V.heap.size V w')
        (first
          | exact KV.out _ (by assumption)
          | exact KV.out _ (Below.drew (by assumption))
          | (go_split_ands; exact KV.out _ (bel_alloc (by assumption))))
        (first
          | (go_at_call 29; go_split_ands; refine (rest_any Aq Bq cq dq p q (latN p) _ lp lq (rq0.to (by assumption)) (sq0.to (by assumption))).mono ?_; rintro e wn hmade; obtain ⟨Az, cz, Bz, dz, rfl, rz, sz, hbn⟩ := hmade.rd16; clear hmade; have hqn := chain (W := V) hbn (by assumption))
          | (go_at_call 15; go_split_ands; refine (implIn_any _ 2 [⟨p, q, latN p⟩, ⟨gapsL 65535 0 p, gapsL 1114111 65536 q, latN (gapsL 65535 0 p)⟩] r _ hr0 hr1 (by simp) hsrt (two_list (Bk.new wn _ _) (rq0.to (bel_alloc hqn)) (sq0.to (bel_alloc hqn)) (rz.to (bel_alloc (Below.refl _ _))) (sz.to (bel_alloc (Below.refl _ _))) ⟨by simp only; omega, by simp only; omega⟩ ⟨by simp only; omega, by simp only; omega⟩)).mono ?_; rintro e wm ⟨rfl, hbm⟩; have hqm := chain (W := V) hbm (bel_alloc hqn)))
      all_goals (
        go_wp2
        go_ret
        refine ⟨rfl, hbW.trans ((hqV.trans (Below.mono ?_ hqV.size)).mono hbW.size)⟩
        go_split_ands
        assumption)
  · have h0b : decide (0 ≤ r) = false := by simp; omega
    have hany : [(⟨p, q, latN p⟩ : Tab), ⟨gapsL 65535 0 p, gapsL 1114111 65536 q, latN (gapsL 65535 0 p)⟩].any (isB · r) = false := by simp only [List.any_cons, List.any_nil, rest_out u1 u2 (.inl (by omega : r < 0)), rest_out g1 g2 (.inl (by omega : r < 0)), Bool.or_false]
    go_wp2_with fail
    first
      | (go_region_with (first
          | (go_at_call 29; refine (rest_any Aq Bq cq dq p q (latN p) _ lp lq (rq0.to (Below.refl _ _).drew) (sq0.to (Below.refl _ _).drew)).mono ?_; rintro e wn hmade; obtain ⟨Az, cz, Bz, dz, rfl, rz, sz, hbn⟩ := hmade.rd16; clear hmade; have hqn := chain (W := V) hbn ((Below.refl V.heap.size V).drew); obtain ⟨z0, z1, z2, -⟩ := KV.out wn hqn)
          | (go_at_call 15; refine (implIn_any _ 2 [⟨p, q, latN p⟩, ⟨gapsL 65535 0 p, gapsL 1114111 65536 q, latN (gapsL 65535 0 p)⟩] r _ hr0 hr1 (by simp) hsrt (two_list (Bk.new wn _ _) (rq0.to (bel_alloc hqn)) (sq0.to (bel_alloc hqn)) (rz.to (bel_alloc (Below.refl _ _))) (sz.to (bel_alloc (Below.refl _ _))) ⟨by simp only; omega, by simp only; omega⟩ ⟨by simp only; omega, by simp only; omega⟩)).mono ?_; rintro e wm ⟨rfl, hbm⟩; have hqm := chain (W := V) hbm (bel_alloc hqn))))
      | fail
    all_goals (
      go_wp2
      go_ret
      exact ⟨rfl, hbW.trans ((hqV.trans (hqm.mono hqV.size)).mono hbW.size)⟩)

theorem own : ownKnob Try.prog.godebug = none := by kernel_rfl
theorem laidOut : laidOutB Try.prog = true := by kernel_rfl

set_option maxRecDepth 100000 in
theorem lifted (os : Os) (started : os.Started) (H : Type) (enc : TypeId × Value → H) :
    ReturnsInHanded {} Try.checked os 12 .any (Rows.fnInAllSpec.pre6 enc Try.prog Try.f12 Rows.fnInAllRow.domain false) (Rows.fnInAllSpec.post enc Try.prog Try.f12 false true false false) := by
  refine returnsInHanded_of_change (C := Try.checked) own started (by kernel_rfl) Try.func12
    (ChangeSpec.witness6 (enc := enc) (C := Try.checked) false ⟨#[], #[.slice none 0 0], []⟩ 8 (by kernel_rfl) (by kernel_rfl) (by kernel_rfl) (by kernel_rfl)) ?_
  intro W base args ds gs before hval0 hW hcnd _
  have hval : ∀ (j : Nat) t v, Try.f12.params[j]? = some t → args[j]? = some v → Value.okWide Try.prog W .any base t v := hval0
  have hW' := hW
  obtain ⟨p, q, hA0, hV, rfl, hfz, hnd⟩ := hW
  have hA : DataW.TrodAll enc Try.prog W 0 (fun _ => true) true Try.f12.params.toList args.toList ds p := hA0
  rw [Try.params12] at hA hval
  obtain ⟨v0, vs0, d0, ds0, p0, q0, hargs, rfl, rfl, h0, r0⟩ := trodAll_cons hA
  obtain ⟨rfl, rfl, rfl⟩ := trodAll_nil r0
  obtain rfl : args = #[v0] := by cases args; simp_all
  obtain ⟨rfl, rfl⟩ := trodVars_none hV
  obtain ⟨a0, len0, cap0, rfl⟩ := okWide_slice Try.underlying22 (hval 0 22 v0 rfl rfl)
  have k0 := h0
  have lt0 : ∀ x ∈ p0, x.block < W.heap.size := by obtain ⟨m, hm⟩ := k0; exact DataW.trod_lt m _ _ _ hm
  obtain ⟨hB, hM⟩ : RdB W W.heap.size a0 len0 ∧ len0 ≤ 9223372036854775807 := by
    obtain ⟨fuel, hf⟩ := h0
    rcases open_ints Try.underlying22 Try.underlying5 (by kernel_rfl) hf with ⟨hcs, _⟩ | ⟨x, l, c, zs, hcs, _, hl, hm, hz, _, hcell, hwz⟩
    · simp [Value.cells] at hcs
      obtain ⟨rfl, rfl, rfl⟩ := hcs
      exact ⟨fun h => absurd h (by omega), by omega⟩
    · simp [Value.cells] at hcs
      obtain ⟨rfl, rfl, rfl⟩ := hcs
      exact ⟨bytes_of hl (by simpa using hz) hcell hwz, by unfold maxLen at hm; omega⟩
  clear hA0 hval0
  refine (walk a0 len0 cap0 W hB hM).mono fun e W' ⟨he, bel⟩ => ?_
  subst he
  exact ⟨_, rfl, _, _, _, [], _, [], hW', trodAll_mk1 (shut_bool Try.underlying4 _), (trodAll_cons_mk (Below.trod laidOut (by kernel_rfl) (of_decide_eq_true (by kernel_rfl)) k0 bel lt0) trodAll_mk0), rfl, bel.frame _, fun h => by cases h⟩

theorem over : Rows.fnInAllRow.holds Try.pinned (OpenSpec.ofChange Rows.fnInAllSpec) :=
  OpenClaim.holds_of_wide 12 Try.f12 rfl rfl rfl rfl rfl rfl rfl ⟨rfl, rfl, rfl, rfl, rfl⟩ rfl rfl rfl rfl rfl (by kernel_rfl) Try.func12 (by kernel_rfl)
    (of_decide_eq_true (by kernel_rfl)) (by unfold Func.isWrapper; first | (rw [if_pos (by decide +kernel)]; kernel_rfl) | (rw [if_neg (by decide +kernel)]; exact ⟨rfl, rfl⟩))
    (fun os started H enc _ => lifted os started H enc)

theorem proved : Rows.FnInAllSaid := over
#print axioms proved
end Go.Proofs.Ytnhmacmpobkdoaa.fnInAll
