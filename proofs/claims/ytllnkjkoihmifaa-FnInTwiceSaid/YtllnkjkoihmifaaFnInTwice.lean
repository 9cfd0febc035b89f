/- FnInTwice: for every input the law returns true, and what came in is as it was. No conditions. -/
import Derived.Test.YtllnkjkoihmifaaLstS
import Derived.Test.YtllnkjkoihmifaaRows
import Derived.Deep.RegionHeld3
import Derived.Deep.RegionWith
import Derived.ProofKit
import Derived.OpenShut
import Derived.ShutString
import Derived.ChangeOld
namespace Go.Proofs.Ytllnkjkoihmifaa.fnInTwice
open Go.ChangeShapes Go.WideShapes Go.ChangeAt Go.RowKit
set_option linter.unusedVariables false

set_option maxHeartbeats 8000000 in
set_option maxRecDepth 100000 in
theorem walk (A : Option Addr) (n c : Nat) (w : World) (hA : RdB w w.heap.size A n) (hm : n ≤ 9223372036854775807) :
    Calls Try.prog 8 #[.slice A n c] w fun e w' => e = .returned (.bool true) ∧ Below w.heap.size w w' := by
  obtain ⟨i0, hi0, hz0, hz1, hz2⟩ := info_parts info_tab
  rcases Nat.lt_or_ge 1048576 n with hn | hn
  · have hnz : (1048576 : Int) < (n : Int) := by omega
    go_enter Try.func8, Try.ntmps8
    go_wp2
    go_ret
    exact ⟨rfl, Below.refl _ _⟩
  have hnz : ¬ ((1048576 : Int) < (n : Int)) := by omega
  go_enter Try.func8, Try.ntmps8
  have HLE := Lib.hid (letter_any w)
  go_wp2_with fail
  go_at_call 20
  refine HLE.out.mono ?_
  rintro e wa ⟨Al, cl, rfl, hRl, hbl0⟩
  have HLI := Lib.hid (letterIn_any Al cl wa hRl)
  go_wp2_with fail
  go_at_call 15
  refine HLI.out.mono ?_
  rintro e wl ⟨rfl, hbl1⟩
  have hbl := hbl0.trans (hbl1.mono hbl0.size)
  have hAl : RdB wl wl.heap.size A n := (hA.keep fun p hp => hbl.cell hp).more hbl.size
  clear HLE HLI hbl0 hbl1 hRl
  have HDR := Lib.hid (drawIn_at A n c wl hn hAl)
  go_wp2_with fail
  go_at_call 13
  refine HDR.out.mono ?_
  rintro e W ⟨A', c', ts, r, rfl, htl, hT, hsm, ⟨hc0, hc1, hat⟩, hr0, hr1, hb1⟩
  clear HDR
  have hbW := hbl.trans (hb1.mono hbl.size)
  clear hbl hb1
  have HG := Lib.hid (allGood_any A' c' ts W (by omega) hT)
  go_wp2_with fail
  go_at_call 14
  refine HG.out.mono ?_
  rintro e wg ⟨rfl, hq⟩
  clear HG
  cases h1 : allGoodB ts
  · have hfin := hbW.trans (hq.mono hbW.size)
    go_wp2
    go_ret
    exact ⟨rfl, hfin⟩
  obtain ⟨hs, hp⟩ := allGoodB_true h1
  clear h1
  by_cases h0 : 0 < ts.length
  · obtain ⟨g, off, t0, A16, c16, A32, c32, eA, hg, -⟩ := hT.at_ h0
    rcases hat with rfl | ⟨g', rfl⟩
    · cases eA
    injection eA with eA
    injection eA with e1 e2
    subst e1 e2
    obtain ⟨es, he, hE, hcell⟩ := hT.ents
    have hel : es.length = ts.length := by rw [← he, List.length_map]
    have hnl : (cellsE es).length = ts.length * 3 := by rw [cellsE_length, hel]
    have HE := Lib.hid he; have HEL := Lib.hid hel; have HNL := Lib.hid hnl; clear he hel hnl
    have hL0 := LstR.start hq
    have hown := hL0.1
    have hsz := hq.size
    have HL0 := Lib.hid hL0; clear hL0
    go_wp2_with (first
      | (go_at_call 15; fail)
      | (at_builtin; refine wpList_append_lies _ rfl _ _ _ rfl W.heap.size 35 i0 _ 3 56 Try.underlying23 hi0 hz0 hz1 hz2 rfl (by omega) _ 0 [] rfl hown ⟨g', 0, none⟩ ts.length c' (cellsE es) rfl HNL.out (ents_news hg HL0.out.2.2 hcell) (cellsE_one es) h0 (by unfold maxLen; omega) (by omega) (by simp; omega) _ rfl ?_; intro g1 cap1 wa hown1 hgrow1 hat1 hlt1; rw [Nat.zero_add, List.nil_append] at hown1; have hqa : Below W.heap.size W wa := HL0.out.2.2.grown hgrow1 HL0.out.2.2.size (own_ge HL0.out.1))
      | (at_builtin; refine wpList_append_lies _ rfl _ _ _ rfl W.heap.size 35 i0 _ 3 56 Try.underlying23 hi0 hz0 hz1 hz2 rfl (by omega) _ ts.length (cellsE es) rfl hown1 ⟨g', 0, none⟩ ts.length c' (cellsE es) rfl HNL.out (ents_news hg hqa hcell) (cellsE_one es) h0 (by unfold maxLen; omega) (by omega) (by have := hqa.size; omega) _ rfl ?_; intro g2 cap2 wb hown2 hgrow2 hat2 hlt2))
    have hL2 : LstR W (some ⟨g2, 0, none⟩) cap2 (es ++ es) wb := ⟨by rw [cellsE_append, List.length_append, HEL.out]; exact hown2, fun x hx => (List.mem_append.1 hx).elim (hE x) (hE x), hqa.grown hgrow2 hqa.size (own_ge hown1)⟩
    have hqb := hL2.2.2
    have hany : ((es ++ es).map Ent.t).any (isB · r) = ts.any (isB · r) := by rw [List.map_append, HE.out, List.any_append, Bool.or_self]
    have hs2 : SrtT ((es ++ es).map Ent.t) := fun t ht => by rw [List.map_append, HE.out] at ht; exact (List.mem_append.1 ht).elim (hs t) (hs t)
    have hC := implIn_lst r hL2 (by rw [List.length_append, HEL.out]; omega) hr0 hr1 hs2
    rw [hany, List.length_append, HEL.out] at hC
    have HC := Lib.hid hC; clear hC hany hs2 hL2 hown hown1 hown2 hgrow1 hgrow2 hat1 hat2 hlt1 hlt2 hqa
    cases hM : ts.any (isB · r)
    all_goals (
      rw [hM] at HC
      have HM := Lib.hid hM; clear hM
      go_wp2_with fail
      go_at_call 15
      refine HC.out.mono ?_
      rintro e w2 ⟨rfl, hbn2⟩
      have hq2 := chain (W := W) hbn2 hqb
      clear HC hbn2
      have HC3 := Lib.hid (HM.out ▸ implIn_any _ c' ts r w2 hr0 hr1 (by omega) hs (hT.to hq2))
      go_wp2_with fail
      go_at_call 15
      refine HC3.out.mono ?_
      rintro e w3 ⟨rfl, hbn3⟩
      have hq3 := chain (W := W) hbn3 hq2
      clear HC3 hbn3
      have hfin := hbW.trans (hq3.mono hbW.size)
      go_wp2
      go_ret
      exact ⟨rfl, hfin⟩)
  · obtain rfl : ts = [] := List.eq_nil_of_length_eq_zero (by omega)
    have hqe := hq.alloc hq.size (.cells #[] 35)
    rcases hat with rfl | ⟨g', rfl⟩
    · skip
      have HC2 := Lib.hid (implIn_any (some ⟨wg.heap.size, 0, none⟩) 0 [] r (wg.alloc (.cells #[] 35)) hr0 hr1 (by simp) (fun t ht => by cases ht) RdT.nil)
      go_wp2_with fail
      go_at_call 15
      refine HC2.out.mono ?_
      rintro e w2 ⟨rfl, hbn2⟩
      have hq2 := chain (W := W) hbn2 hqe
      clear HC2 hbn2
      have HC3 := Lib.hid (implIn_any none c' [] r w2 hr0 hr1 (by simp) (fun t ht => by cases ht) RdT.nil)
      go_wp2_with fail
      go_at_call 15
      refine HC3.out.mono ?_
      rintro e w3 ⟨rfl, hbn3⟩
      have hq3 := chain (W := W) hbn3 hq2
      clear HC3 hbn3
      have hfin := hbW.trans (hq3.mono hbW.size)
      go_wp2
      go_ret
      exact ⟨rfl, hfin⟩
    · skip
      have HC2 := Lib.hid (implIn_any (some ⟨wg.heap.size, 0, none⟩) 0 [] r (wg.alloc (.cells #[] 35)) hr0 hr1 (by simp) (fun t ht => by cases ht) RdT.nil)
      go_wp2_with fail
      go_at_call 15
      refine HC2.out.mono ?_
      rintro e w2 ⟨rfl, hbn2⟩
      have hq2 := chain (W := W) hbn2 hqe
      clear HC2 hbn2
      have HC3 := Lib.hid (implIn_any (some ⟨g', 0, none⟩) c' [] r w2 hr0 hr1 (by simp) (fun t ht => by cases ht) RdT.nil)
      go_wp2_with fail
      go_at_call 15
      refine HC3.out.mono ?_
      rintro e w3 ⟨rfl, hbn3⟩
      have hq3 := chain (W := W) hbn3 hq2
      clear HC3 hbn3
      have hfin := hbW.trans (hq3.mono hbW.size)
      go_wp2
      go_ret
      exact ⟨rfl, hfin⟩

theorem own : ownKnob Try.prog.godebug = none := by kernel_rfl
theorem laidOut : laidOutB Try.prog = true := by kernel_rfl

set_option maxRecDepth 100000 in
theorem lifted (os : Os) (started : os.Started) (H : Type) (enc : TypeId × Value → H) :
    ReturnsInHanded {} Try.checked os 8 .any (Rows.fnInTwiceSpec.pre6 enc Try.prog Try.f8 Rows.fnInTwiceRow.domain false) (Rows.fnInTwiceSpec.post enc Try.prog Try.f8 false true false false) := by
  refine returnsInHanded_of_change (C := Try.checked) own started (by kernel_rfl) Try.func8
    (ChangeSpec.witness6 (enc := enc) (C := Try.checked) false ⟨#[], #[.slice none 0 0], []⟩ 8 (by kernel_rfl) (by kernel_rfl) (by kernel_rfl) (by kernel_rfl)) ?_
  intro W base args ds gs before hval0 hW hcnd _
  have hval : ∀ (j : Nat) t v, Try.f8.params[j]? = some t → args[j]? = some v → Value.okWide Try.prog W .any base t v := hval0
  have hW' := hW
  obtain ⟨p, q, hA0, hV, rfl, hfz, hnd⟩ := hW
  have hA : DataW.TrodAll enc Try.prog W 0 (fun _ => true) true Try.f8.params.toList args.toList ds p := hA0
  rw [Try.params8] at hA hval
  obtain ⟨v0, vs0, d0, ds0, p0, q0, hargs, rfl, rfl, h0, r0⟩ := trodAll_cons hA
  obtain ⟨rfl, rfl, rfl⟩ := trodAll_nil r0
  obtain rfl : args = #[v0] := by cases args; simp_all
  obtain ⟨rfl, rfl⟩ := trodVars_none hV
  obtain ⟨a0, len0, cap0, rfl⟩ := okWide_slice Try.underlying22 (hval 0 22 v0 rfl rfl)
  have k0 := h0
  have lt0 : ∀ x ∈ p0, x.block < W.heap.size := by obtain ⟨m, hm⟩ := k0; exact DataW.trod_lt m _ _ _ hm
  obtain ⟨hB, hM⟩ : RdB W W.heap.size a0 len0 ∧ len0 ≤ 9223372036854775807 := by
    obtain ⟨fuel, hf⟩ := h0
    rcases open_ints Try.underlying22 Try.underlying5 (by kernel_rfl) hf with ⟨hcs, _⟩ | ⟨x, l, c, zs, hcs, _, hl, hm, hz, _, hcell, hwz⟩
    · simp [Value.cells] at hcs
      obtain ⟨rfl, rfl, rfl⟩ := hcs
      exact ⟨fun h => absurd h (by omega), by omega⟩
    · simp [Value.cells] at hcs
      obtain ⟨rfl, rfl, rfl⟩ := hcs
      exact ⟨bytes_of hl (by simpa using hz) hcell hwz, by unfold maxLen at hm; omega⟩
  clear hA0 hval0
  refine (walk a0 len0 cap0 W hB hM).mono fun e W' ⟨he, bel⟩ => ?_
  subst he
  exact ⟨_, rfl, _, _, _, [], _, [], hW', trodAll_mk1 (shut_bool Try.underlying4 _), (trodAll_cons_mk (Below.trod laidOut (by kernel_rfl) (of_decide_eq_true (by kernel_rfl)) k0 bel lt0) trodAll_mk0), rfl, bel.frame _, fun h => by cases h⟩

theorem over : Rows.fnInTwiceRow.holds Try.pinned (OpenSpec.ofChange Rows.fnInTwiceSpec) :=
  OpenClaim.holds_of_wide 8 Try.f8 rfl rfl rfl rfl rfl rfl rfl ⟨rfl, rfl, rfl, rfl, rfl⟩ rfl rfl rfl rfl rfl (by kernel_rfl) Try.func8 (by kernel_rfl)
    (of_decide_eq_true (by kernel_rfl)) (by unfold Func.isWrapper; first | (rw [if_pos (by decide +kernel)]; kernel_rfl) | (rw [if_neg (by decide +kernel)]; exact ⟨rfl, rfl⟩))
    (fun os started H enc _ => lifted os started H enc)

theorem proved : Rows.FnInTwiceSaid := over
#print axioms proved
end Go.Proofs.Ytllnkjkoihmifaa.fnInTwice
