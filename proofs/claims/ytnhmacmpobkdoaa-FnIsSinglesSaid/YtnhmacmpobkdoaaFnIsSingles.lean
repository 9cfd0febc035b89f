/- FnIsSingles: for every input the law returns true, and what came in is as it was. No conditions. -/
import Derived.Test.YtnhmacmpobkdoaaLawL
import Derived.Test.YtnhmacmpobkdoaaMembers
import Derived.Test.YtnhmacmpobkdoaaOf
import Derived.Test.YtnhmacmpobkdoaaCount
import Derived.Test.YtnhmacmpobkdoaaRows
import Derived.Deep.RegionHeld3
import Derived.Deep.RegionWith
import Derived.ProofKit
import Derived.OpenShut
import Derived.ShutString
import Derived.ChangeOld
namespace Go.Proofs.Ytnhmacmpobkdoaa.fnIsSingles
open Go.ChangeShapes Go.WideShapes Go.ChangeAt Go.RowKit
set_option linter.unusedVariables false

set_option maxHeartbeats 8000000 in
set_option maxRecDepth 100000 in
theorem walk (A : Option Addr) (n c : Nat) (w : World) (hA : RdB w w.heap.size A n) (hm : n ≤ 9223372036854775807) :
    Calls Try.prog 10 #[.slice A n c] w fun e w' => e = .returned (.bool true) ∧ Below w.heap.size w w' := by
  rcases Nat.lt_or_ge 1048576 n with hn | hn
  · have hnz : (1048576 : Int) < (n : Int) := by omega
    go_enter Try.func10, Try.ntmps10
    go_wp2
    go_ret
    exact ⟨rfl, Below.refl _ _⟩
  have hnz : ¬ ((1048576 : Int) < (n : Int)) := by omega
  go_enter Try.func10, Try.ntmps10
  have HLE := Lib.hid (letter_any w)
  go_wp2_with fail
  go_at_call 16
  refine HLE.out.mono ?_
  rintro e wa ⟨Al, cl, rfl, hRl, hbl0⟩
  have HLI := Lib.hid (letterIs_any Al cl wa hRl)
  go_wp2_with fail
  go_at_call 20
  refine HLI.out.mono ?_
  rintro e wl ⟨rfl, hbl1⟩
  have hbl := hbl0.trans (hbl1.mono hbl0.size)
  have hAl : RdB wl wl.heap.size A n := (hA.keep fun p hp => hbl.cell hp).more hbl.size
  clear HLE HLI hbl0 hbl1 hRl
  have HDR := Lib.hid (drawIs_any A n c wl hn hAl)
  go_wp2_with fail
  go_at_call 17
  refine HDR.out.mono ?_
  rintro e w1 ⟨A16, c16, A32, c32, a, b, tn, r, rfl, hT, hr0, hr1, hb1⟩
  clear HDR
  have hb0w := hbl.trans (hb1.mono hbl.size)
  have hal := (Below.refl w1.heap.size w1).alloc (Nat.le_refl _) (.cells #[.slice A16 a.length c16, .slice A32 b.length c32, .int .i64 tn] 27)
  have hnb := Bk.new w1 27 #[.slice A16 a.length c16, .slice A32 b.length c32, .int .i64 tn]
  have ra0 := hT.rd16.to hal
  have rb0 := hT.rd32.to hal
  have la : a.length ≤ 40 := hT.2.2.2.2.1
  have lb : b.length ≤ 40 := hT.2.2.2.2.2
  have hbW := hb0w.trans (hal.mono hb0w.size)
  have hszW : (w1.alloc (.cells #[.slice A16 a.length c16, .slice A32 b.length c32, .int .i64 tn] 27)).heap.size = w1.heap.size + 1 := by simp
  go_wp2_with fail
  generalize hW : w1.alloc (.cells #[.slice A16 a.length c16, .slice A32 b.length c32, .int .i64 tn] 27) = W at *
  have HW := Lib.hid hW; clear hW hb0w hT hb1 hal hbl
  have hsz0 : w1.heap.size < W.heap.size := by omega
  have keepS : ∀ w', Below W.heap.size W w' → w'.cell? ⟨w1.heap.size, 0, none⟩ = some (.slice A16 a.length c16) ∧ w'.cell? ⟨w1.heap.size, 1, none⟩ = some (.slice A32 b.length c32) ∧ w'.cell? ⟨w1.heap.size, 2, none⟩ = some (.int .i64 tn) ∧ Below W.heap.size W w' := fun w' h => by
    have hb := hnb.below h hsz0
    exact ⟨by rw [hb.cell]; rfl, by rw [hb.cell]; rfl, by rw [hb.cell]; rfl, h⟩
  have KS := Lib.hid keepS; clear keepS hnb hszW
  have hW0 : Below W.heap.size W W := Below.refl _ _
  have HG := Lib.hid (good_any A16 A32 c16 c32 a b tn W (by omega) (by omega) ra0 rb0)
  go_at_call 18
  refine HG.out.mono ?_
  rintro e wg ⟨rfl, hq⟩
  clear HG
  cases h1 : goodB ⟨a, b, tn⟩
  · have hfin := hbW.trans (hq.mono hbW.size)
    go_wp2
    go_ret
    exact ⟨rfl, hfin⟩
  obtain ⟨v1, v2, td1, td2, hlat⟩ := goodB_true h1
  have HLAT := Lib.hid hlat; have TD1 := Lib.hid td1; have TD2 := Lib.hid td2
  clear hlat td1 td2 h1
  obtain ⟨y0, y1, y2, -⟩ := KS.out wg hq
  have sa := v1.stp ra0.wf
  have sb := v2.stp rb0.wf
  have hbb : ∀ x ∈ b, x.hi ≤ 1114111 := fun x hx => by obtain ⟨j, hj, rfl⟩ := mem_getD hx; exact (v2 j hj).2.2.2.1
  have haa : ∀ x ∈ a, 0 ≤ x.lo ∧ x.hi ≤ 1114111 := fun x hx => by obtain ⟨j, hj, rfl⟩ := mem_getD hx; exact ⟨(v1 j hj).2.2.1, by have := (v1 j hj).2.2.2.1; omega⟩
  have hba : ∀ x ∈ b, 0 ≤ x.lo ∧ x.hi ≤ 1114111 := fun x hx => by obtain ⟨j, hj, rfl⟩ := mem_getD hx; exact ⟨by have := (v2 j hj).2.2.1; omega, (v2 j hj).2.2.2.1⟩
  have hlen : (membersL a ++ membersL b).length ≤ 100000000 := by
    have h1 := length_membersL sa haa
    have h2 := length_membersL sb hba
    rw [List.length_append]; omega
  have hasc := asc_members v1 v2 sa sb
  have hcps := cps_members v1 v2 sa sb
  have hiB := isB_members sa sb tn r
  have hmb := fun W la lb (h1 : Rd W W.heap.size .u16 65536 A16 a) (h2 : Rd W W.heap.size .u32 4294967296 A32 b) => members_any A16 A32 c16 c32 a b tn W la lb h1 h2 sa sb hbb
  generalize membersL a ++ membersL b = zs at *
  have u1 := srt_ofA hasc hcps
  have u2 := srt_ofB hasc hcps
  have hC : isB ⟨ofA zs, ofB zs, latN (ofA zs)⟩ r = isB ⟨a, b, tn⟩ r := (isB_of _ _ _).trans hiB
  have HC := Lib.hid hC; have HMB := Lib.hid hmb; clear hC hmb hiB hasc
  have HCT := Lib.hid (count_any A16 A32 c16 c32 a b tn wg la lb (ra0.to hq) (rb0.to hq) sa sb)
  go_wp2_with fail
  go_at_call 30
  refine HCT.out.mono ?_
  rintro e w2 ⟨z, rfl, z0, z1, hbn2⟩
  have hq2 := chain (W := W) hbn2 hq
  clear HCT hbn2 y0 y1 y2
  obtain ⟨y0, y1, y2, -⟩ := KS.out w2 hq2
  by_cases hz : 65536 < z
  · have hfin := hbW.trans (hq2.mono hbW.size)
    go_wp2
    go_ret
    exact ⟨rfl, hfin⟩
  cases hM : isB ⟨a, b, tn⟩ r
  all_goals (
    have hN := HC.out.trans hM
    go_wp2_with fail
    go_region_held3 (fun w' => w'.cell? ⟨w1.heap.size, 0, none⟩ = some (.slice A16 a.length c16) ∧ w'.cell? ⟨w1.heap.size, 1, none⟩ = some (.slice A32 b.length c32) ∧ w'.cell? ⟨w1.heap.size, 2, none⟩ = some (.int .i64 tn) ∧ Below W.heap.size W w')
      (first
        | exact KS.out _ (by assumption)
        | exact KS.out _ (Below.drew (by assumption)))
      (first
        | (go_at_call 31; go_split_ands; refine (HMB.out _ la lb (ra0.to (by assumption)) (rb0.to (by assumption))).mono ?_; rintro e wn ⟨Am, cm, rfl, hRm, hbn⟩; have hrn := hRm.rn; clear hRm; have hqn := chain (W := W) hbn (by assumption))
        | (go_at_call 27; go_split_ands; refine (of_any Am cm zs _ hlen (by first | exact hrn | exact hrn.to (by assumption)) hcps).mono ?_; rintro e wn hmade; obtain ⟨Aq, cq, Bq, dq, rfl, rq, sq, hbn⟩ := hmade.rd16; have hqn := chain (W := W) hbn (by assumption))
        | (go_at_call 20; go_split_ands; refine (implIs_any A16 A32 c16 c32 a b tn r _ hr0 hr1 v1 v2 (ra0.to (by assumption)) (rb0.to (by assumption))).mono ?_; rintro e wn ⟨rfl, hbn⟩; have hqn := chain (W := W) hbn (by assumption))
        | (go_at_call 20; go_split_ands; refine (implIs_any Aq Bq cq dq (ofA zs) (ofB zs) (latN (ofA zs)) r _ hr0 hr1 u1 u2 (by first | exact rq | exact rq.to (by assumption)) (by first | exact sq | exact sq.to (by assumption))).mono ?_; rintro e wn ⟨rfl, hbn⟩; have hqn := chain (W := W) hbn (by assumption)))
    all_goals (
      go_wp2
      go_ret
      refine ⟨rfl, hbW.trans (Below.mono ?_ hbW.size)⟩
      go_split_ands
      assumption))

theorem own : ownKnob Try.prog.godebug = none := by kernel_rfl
theorem laidOut : laidOutB Try.prog = true := by kernel_rfl

set_option maxRecDepth 100000 in
theorem lifted (os : Os) (started : os.Started) (H : Type) (enc : TypeId × Value → H) :
    ReturnsInHanded {} Try.checked os 10 .any (Rows.fnIsSinglesSpec.pre6 enc Try.prog Try.f10 Rows.fnIsSinglesRow.domain false) (Rows.fnIsSinglesSpec.post enc Try.prog Try.f10 false true false false) := by
  refine returnsInHanded_of_change (C := Try.checked) own started (by kernel_rfl) Try.func10
    (ChangeSpec.witness6 (enc := enc) (C := Try.checked) false ⟨#[], #[.slice none 0 0], []⟩ 8 (by kernel_rfl) (by kernel_rfl) (by kernel_rfl) (by kernel_rfl)) ?_
  intro W base args ds gs before hval0 hW hcnd _
  have hval : ∀ (j : Nat) t v, Try.f10.params[j]? = some t → args[j]? = some v → Value.okWide Try.prog W .any base t v := hval0
  have hW' := hW
  obtain ⟨p, q, hA0, hV, rfl, hfz, hnd⟩ := hW
  have hA : DataW.TrodAll enc Try.prog W 0 (fun _ => true) true Try.f10.params.toList args.toList ds p := hA0
  rw [Try.params10] at hA hval
  obtain ⟨v0, vs0, d0, ds0, p0, q0, hargs, rfl, rfl, h0, r0⟩ := trodAll_cons hA
  obtain ⟨rfl, rfl, rfl⟩ := trodAll_nil r0
  obtain rfl : args = #[v0] := by cases args; simp_all
  obtain ⟨rfl, rfl⟩ := trodVars_none hV
  obtain ⟨a0, len0, cap0, rfl⟩ := okWide_slice Try.underlying22 (hval 0 22 v0 rfl rfl)
  have k0 := h0
  have lt0 : ∀ x ∈ p0, x.block < W.heap.size := by obtain ⟨m, hm⟩ := k0; exact DataW.trod_lt m _ _ _ hm
  obtain ⟨hB, hM⟩ : RdB W W.heap.size a0 len0 ∧ len0 ≤ 9223372036854775807 := by
    obtain ⟨fuel, hf⟩ := h0
    rcases open_ints Try.underlying22 Try.underlying5 (by kernel_rfl) hf with ⟨hcs, _⟩ | ⟨x, l, c, zs, hcs, _, hl, hm, hz, _, hcell, hwz⟩
    · simp [Value.cells] at hcs
      obtain ⟨rfl, rfl, rfl⟩ := hcs
      exact ⟨fun h => absurd h (by omega), by omega⟩
    · simp [Value.cells] at hcs
      obtain ⟨rfl, rfl, rfl⟩ := hcs
      exact ⟨bytes_of hl (by simpa using hz) hcell hwz, by unfold maxLen at hm; omega⟩
  clear hA0 hval0
  refine (walk a0 len0 cap0 W hB hM).mono fun e W' ⟨he, bel⟩ => ?_
  subst he
  exact ⟨_, rfl, _, _, _, [], _, [], hW', trodAll_mk1 (shut_bool Try.underlying4 _), (trodAll_cons_mk (Below.trod laidOut (by kernel_rfl) (of_decide_eq_true (by kernel_rfl)) k0 bel lt0) trodAll_mk0), rfl, bel.frame _, fun h => by cases h⟩

theorem over : Rows.fnIsSinglesRow.holds Try.pinned (OpenSpec.ofChange Rows.fnIsSinglesSpec) :=
  OpenClaim.holds_of_wide 10 Try.f10 rfl rfl rfl rfl rfl rfl rfl ⟨rfl, rfl, rfl, rfl, rfl⟩ rfl rfl rfl rfl rfl (by kernel_rfl) Try.func10 (by kernel_rfl)
    (of_decide_eq_true (by kernel_rfl)) (by unfold Func.isWrapper; first | (rw [if_pos (by decide +kernel)]; kernel_rfl) | (rw [if_neg (by decide +kernel)]; exact ⟨rfl, rfl⟩))
    (fun os started H enc _ => lifted os started H enc)

theorem proved : Rows.FnIsSinglesSaid := over
#print axioms proved
end Go.Proofs.Ytnhmacmpobkdoaa.fnIsSingles
