/- FnIsRest: for every input the law returns true, and what came in is as it was. No conditions. -/
import Derived.Test.YtnhmacmpobkdoaaLawA
import Derived.Test.YtnhmacmpobkdoaaFine
import Derived.Test.YtnhmacmpobkdoaaRest
import Derived.Test.YtnhmacmpobkdoaaPlainH
import Derived.Test.YtnhmacmpobkdoaaRows
import Derived.Deep.RegionHeld3
import Derived.Deep.RegionWith
import Derived.ProofKit
import Derived.OpenShut
import Derived.ShutString
import Derived.ChangeOld
namespace Go.Proofs.Ytnhmacmpobkdoaa.fnIsRest
open Go.ChangeShapes Go.WideShapes Go.ChangeAt Go.RowKit
set_option linter.unusedVariables false

set_option maxHeartbeats 8000000 in
set_option maxRecDepth 100000 in
theorem walk (A : Option Addr) (n c : Nat) (w : World) (hA : RdB w w.heap.size A n) (hm : n ≤ 9223372036854775807) :
    Calls Try.prog 9 #[.slice A n c] w fun e w' => e = .returned (.bool true) ∧ Below w.heap.size w w' := by
  rcases Nat.lt_or_ge 1048576 n with hn | hn
  · have hnz : (1048576 : Int) < (n : Int) := by omega
    go_enter Try.func9, Try.ntmps9
    go_wp2
    go_ret
    exact ⟨rfl, Below.refl _ _⟩
  have hnz : ¬ ((1048576 : Int) < (n : Int)) := by omega
  go_enter Try.func9, Try.ntmps9
  have HDR := Lib.hid (drawIs_any A n c w hn hA)
  go_wp2_with fail
  go_at_call 17
  refine HDR.out.mono ?_
  rintro e w1 ⟨A16, c16, A32, c32, a, b, tn, r, rfl, hT, hr0, hr1, hb1⟩
  clear HDR
  have na : A16 = none → a.length = 0 ∧ c16 = 0 := own_nil hT.1
  have nb : A32 = none → b.length = 0 ∧ c32 = 0 := own_nil hT.2.1
  have hb0w := hb1
  have hal := (Below.refl w1.heap.size w1).alloc (Nat.le_refl _) (.cells #[.slice A16 a.length c16, .slice A32 b.length c32, .int .i64 tn] 27)
  have hnb := Bk.new w1 27 #[.slice A16 a.length c16, .slice A32 b.length c32, .int .i64 tn]
  have ra0 := hT.rd16.to hal
  have rb0 := hT.rd32.to hal
  have la : a.length ≤ 40 := hT.2.2.2.2.1
  have lb : b.length ≤ 40 := hT.2.2.2.2.2
  have hbW := hb0w.trans (hal.mono hb0w.size)
  have hszW : (w1.alloc (.cells #[.slice A16 a.length c16, .slice A32 b.length c32, .int .i64 tn] 27)).heap.size = w1.heap.size + 1 := by simp
  go_wp2_with fail
  generalize hW : w1.alloc (.cells #[.slice A16 a.length c16, .slice A32 b.length c32, .int .i64 tn] 27) = W at *
  have HW := Lib.hid hW; clear hW hb0w hT hb1 hal
  have hsz0 : w1.heap.size < W.heap.size := by omega
  have keepS : ∀ w', Below W.heap.size W w' → w'.cell? ⟨w1.heap.size, 0, none⟩ = some (.slice A16 a.length c16) ∧ w'.cell? ⟨w1.heap.size, 1, none⟩ = some (.slice A32 b.length c32) ∧ w'.cell? ⟨w1.heap.size, 2, none⟩ = some (.int .i64 tn) ∧ Below W.heap.size W w' := fun w' h => by
    have hb := hnb.below h hsz0
    exact ⟨by rw [hb.cell]; rfl, by rw [hb.cell]; rfl, by rw [hb.cell]; rfl, h⟩
  have KS := Lib.hid keepS; clear keepS hnb hszW
  have hW0 : Below W.heap.size W W := Below.refl _ _
  have HG := Lib.hid (good_any A16 A32 c16 c32 a b tn W (by omega) (by omega) ra0 rb0)
  go_at_call 18
  refine HG.out.mono ?_
  rintro e wg ⟨rfl, hq⟩
  clear HG
  cases h1 : goodB ⟨a, b, tn⟩
  · have hfin := hbW.trans (hq.mono hbW.size)
    go_wp2
    go_ret
    exact ⟨rfl, hfin⟩
  obtain ⟨v1, v2, td1, td2, hlat⟩ := goodB_true h1
  have HLAT := Lib.hid hlat; have TD1 := Lib.hid td1; have TD2 := Lib.hid td2
  clear hlat td1 td2 h1
  obtain ⟨y0, y1, y2, -⟩ := KS.out wg hq
  have sa := v1.stp ra0.wf
  have sb := v2.stp rb0.wf
  have e1 := srt_endsL v1.srtR sa
  have e2 := srt_endsL v2.srtR sb
  have u1 := (srt_fineL e1).srt
  have u2 := (srt_fineL e2).srt
  have HC3 := Lib.hid (fine_any A16 A32 c16 c32 a b tn wg la lb (ra0.to hq) (rb0.to hq) sa sb na nb)
  go_wp2_with fail
  go_at_call 24
  refine HC3.out.mono ?_
  rintro e w3 hmade
  obtain ⟨Aq, cq, Bq, dq, rfl, rq, sq, hbn3⟩ := hmade.rd16
  have hq3 := chain (W := W) hbn3 hq
  clear HC3 hbn3 hmade
  have t1 := st1_fineL (endsL a)
  have t2 := st1_fineL (endsL b)
  have lp : (fineL (endsL a)).length ≤ 40 := by unfold fineL endsL; rw [List.length_map, List.length_map]; exact la
  have lq : (fineL (endsL b)).length ≤ 40 := by unfold fineL endsL; rw [List.length_map, List.length_map]; exact lb
  clear e1 e2 y0 y1 y2
  generalize fineL (endsL a) = p at *
  generalize fineL (endsL b) = q at *
  have g1 := (srt_gapsL u1.srtR).srt
  have g2 := (srt_gapsL u2.srtR).srt
  have lg1 := gapsL_length 65535 p 0
  have lg2 := gapsL_length 1114111 q 65536
  have hal := (Below.refl w3.heap.size w3).alloc (Nat.le_refl _) (.cells #[.slice Aq p.length cq, .slice Bq q.length dq, .int .i64 (latN p)] 27)
  have hB5 := Bk.new w3 27 #[.slice Aq p.length cq, .slice Bq q.length dq, .int .i64 (latN p)]
  have rq0 := rq.to hal
  have sq0 := sq.to hal
  have hqV := hq3.trans (hal.mono hq3.size)
  have hX5l := hB5.lt
  go_wp2_with fail
  generalize hV : w3.alloc (.cells #[.slice Aq p.length cq, .slice Bq q.length dq, .int .i64 (latN p)] 27) = V at *
  clear hV rq sq hal
  generalize hX5 : w3.heap.size = X5 at *
  clear hX5 hq3
  have kV : ∀ w', Below V.heap.size V w' → w'.cell? ⟨X5, 0, none⟩ = some (.slice Aq p.length cq) ∧ w'.cell? ⟨X5, 1, none⟩ = some (.slice Bq q.length dq) ∧ w'.cell? ⟨X5, 2, none⟩ = some (.int .i64 (latN p)) ∧ Below V.heap.size V w' := fun w' h => by
    have hb := hB5.below h hX5l
    exact ⟨hb.cell 0, hb.cell 1, hb.cell 2, h⟩
  have KV := Lib.hid kV; clear kV hB5
  obtain ⟨y0, y1, y2, hV0⟩ := KV.out V (Below.refl _ _)
  by_cases h0 : r < 0
  · have h0b : decide (r < 0) = true := by simp; omega
    have HA := Lib.hid (rest_out (n := latN p) u1 u2 (.inl h0)); have HB := Lib.hid (rest_out (n := latN (gapsL 65535 0 p)) g1 g2 (.inl h0))
    have HC4 := Lib.hid (HA.out ▸ implIs_any Aq Bq cq dq p q (latN p) r V hr0 hr1 u1 u2 rq0 sq0)
    go_wp2_with fail
    go_at_call 20
    refine HC4.out.mono ?_
    rintro e w4 ⟨rfl, hbn4⟩
    clear HC4 y0 y1 y2
    obtain ⟨y0, y1, y2, -⟩ := KV.out w4 hbn4
    have HC5 := Lib.hid (rest_any Aq Bq cq dq p q (latN p) w4 lp lq (rq0.to hbn4) (sq0.to hbn4))
    go_wp2_with fail
    go_at_call 29
    refine HC5.out.mono ?_
    rintro e w5 hmade
    obtain ⟨Az, cz, Bz, dz, rfl, rz, sz, hbn5⟩ := hmade.rd16
    clear HC5 hmade y0 y1 y2
    have HC6 := Lib.hid (HB.out ▸ implIs_any Az Bz cz dz (gapsL 65535 0 p) (gapsL 1114111 65536 q) (latN (gapsL 65535 0 p)) r w5 hr0 hr1 g1 g2 rz sz)
    go_wp2_with fail
    go_at_call 20
    refine HC6.out.mono ?_
    rintro e w6 ⟨rfl, hbn6⟩
    clear HC6
    have hq6 := chain hbn6 (chain hbn5 (chain hbn4 (Below.refl V.heap.size V)))
    have hfin := hbW.trans ((hqV.trans (hq6.mono hqV.size)).mono hbW.size)
    clear hbn4 hbn5 hbn6
    go_wp2
    go_ret
    exact ⟨rfl, hfin⟩
  have h0b : decide (r < 0) = false := by simp; omega
  by_cases h1 : 1114111 < r
  · have h1b : decide (1114111 < r) = true := by simp; omega
    have HA := Lib.hid (rest_out (n := latN p) u1 u2 (.inr h1)); have HB := Lib.hid (rest_out (n := latN (gapsL 65535 0 p)) g1 g2 (.inr h1))
    have HC4 := Lib.hid (HA.out ▸ implIs_any Aq Bq cq dq p q (latN p) r V hr0 hr1 u1 u2 rq0 sq0)
    go_wp2_with fail
    go_at_call 20
    refine HC4.out.mono ?_
    rintro e w4 ⟨rfl, hbn4⟩
    clear HC4 y0 y1 y2
    obtain ⟨y0, y1, y2, -⟩ := KV.out w4 hbn4
    have HC5 := Lib.hid (rest_any Aq Bq cq dq p q (latN p) w4 lp lq (rq0.to hbn4) (sq0.to hbn4))
    go_wp2_with fail
    go_at_call 29
    refine HC5.out.mono ?_
    rintro e w5 hmade
    obtain ⟨Az, cz, Bz, dz, rfl, rz, sz, hbn5⟩ := hmade.rd16
    clear HC5 hmade y0 y1 y2
    have HC6 := Lib.hid (HB.out ▸ implIs_any Az Bz cz dz (gapsL 65535 0 p) (gapsL 1114111 65536 q) (latN (gapsL 65535 0 p)) r w5 hr0 hr1 g1 g2 rz sz)
    go_wp2_with fail
    go_at_call 20
    refine HC6.out.mono ?_
    rintro e w6 ⟨rfl, hbn6⟩
    clear HC6
    have hq6 := chain hbn6 (chain hbn5 (chain hbn4 (Below.refl V.heap.size V)))
    have hfin := hbW.trans ((hqV.trans (hq6.mono hqV.size)).mono hbW.size)
    clear hbn4 hbn5 hbn6
    go_wp2
    go_ret
    exact ⟨rfl, hfin⟩
  have h1b : decide (1114111 < r) = false := by simp; omega
  have hin := rest_in (n := latN p) (m := latN (gapsL 65535 0 p)) u1 u2 t1 t2 (r := r) (by omega) (by omega)
  have HIN := Lib.hid hin; clear hin
  cases hA : isB ⟨p, q, latN p⟩ r
  · have HA := Lib.hid hA
    have hB : isB ⟨gapsL 65535 0 p, gapsL 1114111 65536 q, latN (gapsL 65535 0 p)⟩ r = true := by rw [HIN.out, hA]; rfl
    have HB := Lib.hid hB; clear hA hB
    skip
    have HC4 := Lib.hid (HA.out ▸ implIs_any Aq Bq cq dq p q (latN p) r V hr0 hr1 u1 u2 rq0 sq0)
    go_wp2_with fail
    go_at_call 20
    refine HC4.out.mono ?_
    rintro e w4 ⟨rfl, hbn4⟩
    clear HC4 y0 y1 y2
    obtain ⟨y0, y1, y2, -⟩ := KV.out w4 hbn4
    have HC5 := Lib.hid (rest_any Aq Bq cq dq p q (latN p) w4 lp lq (rq0.to hbn4) (sq0.to hbn4))
    go_wp2_with fail
    go_at_call 29
    refine HC5.out.mono ?_
    rintro e w5 hmade
    obtain ⟨Az, cz, Bz, dz, rfl, rz, sz, hbn5⟩ := hmade.rd16
    clear HC5 hmade y0 y1 y2
    have HC6 := Lib.hid (HB.out ▸ implIs_any Az Bz cz dz (gapsL 65535 0 p) (gapsL 1114111 65536 q) (latN (gapsL 65535 0 p)) r w5 hr0 hr1 g1 g2 rz sz)
    go_wp2_with fail
    go_at_call 20
    refine HC6.out.mono ?_
    rintro e w6 ⟨rfl, hbn6⟩
    clear HC6
    have hq6 := chain hbn6 (chain hbn5 (chain hbn4 (Below.refl V.heap.size V)))
    have hfin := hbW.trans ((hqV.trans (hq6.mono hqV.size)).mono hbW.size)
    clear hbn4 hbn5 hbn6
    go_wp2
    go_ret
    exact ⟨rfl, hfin⟩
  · have HA := Lib.hid hA
    have hB : isB ⟨gapsL 65535 0 p, gapsL 1114111 65536 q, latN (gapsL 65535 0 p)⟩ r = false := by rw [HIN.out, hA]; rfl
    have HB := Lib.hid hB; clear hA hB
    skip
    have HC4 := Lib.hid (HA.out ▸ implIs_any Aq Bq cq dq p q (latN p) r V hr0 hr1 u1 u2 rq0 sq0)
    go_wp2_with fail
    go_at_call 20
    refine HC4.out.mono ?_
    rintro e w4 ⟨rfl, hbn4⟩
    clear HC4 y0 y1 y2
    obtain ⟨y0, y1, y2, -⟩ := KV.out w4 hbn4
    have HC5 := Lib.hid (rest_any Aq Bq cq dq p q (latN p) w4 lp lq (rq0.to hbn4) (sq0.to hbn4))
    go_wp2_with fail
    go_at_call 29
    refine HC5.out.mono ?_
    rintro e w5 hmade
    obtain ⟨Az, cz, Bz, dz, rfl, rz, sz, hbn5⟩ := hmade.rd16
    clear HC5 hmade y0 y1 y2
    have HC6 := Lib.hid (HB.out ▸ implIs_any Az Bz cz dz (gapsL 65535 0 p) (gapsL 1114111 65536 q) (latN (gapsL 65535 0 p)) r w5 hr0 hr1 g1 g2 rz sz)
    go_wp2_with fail
    go_at_call 20
    refine HC6.out.mono ?_
    rintro e w6 ⟨rfl, hbn6⟩
    clear HC6
    have hq6 := chain hbn6 (chain hbn5 (chain hbn4 (Below.refl V.heap.size V)))
    have hfin := hbW.trans ((hqV.trans (hq6.mono hqV.size)).mono hbW.size)
    clear hbn4 hbn5 hbn6
    go_wp2
    go_ret
    exact ⟨rfl, hfin⟩

theorem own : ownKnob Try.prog.godebug = none := by kernel_rfl
theorem laidOut : laidOutB Try.prog = true := by kernel_rfl

set_option maxRecDepth 100000 in
theorem lifted (os : Os) (started : os.Started) (H : Type) (enc : TypeId × Value → H) :
    ReturnsInHanded {} Try.checked os 9 .any (Rows.fnIsRestSpec.pre6 enc Try.prog Try.f9 Rows.fnIsRestRow.domain false) (Rows.fnIsRestSpec.post enc Try.prog Try.f9 false true false false) := by
  refine returnsInHanded_of_change (C := Try.checked) own started (by kernel_rfl) Try.func9
    (ChangeSpec.witness6 (enc := enc) (C := Try.checked) false ⟨#[], #[.slice none 0 0], []⟩ 8 (by kernel_rfl) (by kernel_rfl) (by kernel_rfl) (by kernel_rfl)) ?_
  intro W base args ds gs before hval0 hW hcnd _
  have hval : ∀ (j : Nat) t v, Try.f9.params[j]? = some t → args[j]? = some v → Value.okWide Try.prog W .any base t v := hval0
  have hW' := hW
  obtain ⟨p, q, hA0, hV, rfl, hfz, hnd⟩ := hW
  have hA : DataW.TrodAll enc Try.prog W 0 (fun _ => true) true Try.f9.params.toList args.toList ds p := hA0
  rw [Try.params9] at hA hval
  obtain ⟨v0, vs0, d0, ds0, p0, q0, hargs, rfl, rfl, h0, r0⟩ := trodAll_cons hA
  obtain ⟨rfl, rfl, rfl⟩ := trodAll_nil r0
  obtain rfl : args = #[v0] := by cases args; simp_all
  obtain ⟨rfl, rfl⟩ := trodVars_none hV
  obtain ⟨a0, len0, cap0, rfl⟩ := okWide_slice Try.underlying22 (hval 0 22 v0 rfl rfl)
  have k0 := h0
  have lt0 : ∀ x ∈ p0, x.block < W.heap.size := by obtain ⟨m, hm⟩ := k0; exact DataW.trod_lt m _ _ _ hm
  obtain ⟨hB, hM⟩ : RdB W W.heap.size a0 len0 ∧ len0 ≤ 9223372036854775807 := by
    obtain ⟨fuel, hf⟩ := h0
    rcases open_ints Try.underlying22 Try.underlying5 (by kernel_rfl) hf with ⟨hcs, _⟩ | ⟨x, l, c, zs, hcs, _, hl, hm, hz, _, hcell, hwz⟩
    · simp [Value.cells] at hcs
      obtain ⟨rfl, rfl, rfl⟩ := hcs
      exact ⟨fun h => absurd h (by omega), by omega⟩
    · simp [Value.cells] at hcs
      obtain ⟨rfl, rfl, rfl⟩ := hcs
      exact ⟨bytes_of hl (by simpa using hz) hcell hwz, by unfold maxLen at hm; omega⟩
  clear hA0 hval0
  refine (walk a0 len0 cap0 W hB hM).mono fun e W' ⟨he, bel⟩ => ?_
  subst he
  exact ⟨_, rfl, _, _, _, [], _, [], hW', trodAll_mk1 (shut_bool Try.underlying4 _), (trodAll_cons_mk (Below.trod laidOut (by kernel_rfl) (of_decide_eq_true (by kernel_rfl)) k0 bel lt0) trodAll_mk0), rfl, bel.frame _, fun h => by cases h⟩

theorem over : Rows.fnIsRestRow.holds Try.pinned (OpenSpec.ofChange Rows.fnIsRestSpec) :=
  OpenClaim.holds_of_wide 9 Try.f9 rfl rfl rfl rfl rfl rfl rfl ⟨rfl, rfl, rfl, rfl, rfl⟩ rfl rfl rfl rfl rfl (by kernel_rfl) Try.func9 (by kernel_rfl)
    (of_decide_eq_true (by kernel_rfl)) (by unfold Func.isWrapper; first | (rw [if_pos (by decide +kernel)]; kernel_rfl) | (rw [if_neg (by decide +kernel)]; exact ⟨rfl, rfl⟩))
    (fun os started H enc _ => lifted os started H enc)

theorem proved : Rows.FnIsRestSaid := over
#print axioms proved
end Go.Proofs.Ytnhmacmpobkdoaa.fnIsRest
