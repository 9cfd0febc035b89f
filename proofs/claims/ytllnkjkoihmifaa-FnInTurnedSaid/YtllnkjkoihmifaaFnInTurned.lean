/- FnInTurned: for every input the law returns true, and what came in is as it was. No conditions. -/
import Derived.Test.YtllnkjkoihmifaaLstR
import Derived.Test.YtllnkjkoihmifaaRows
import Derived.Deep.RegionHeld3
import Derived.Deep.RegionWith
import Derived.ProofKit
import Derived.OpenShut
import Derived.ShutString
import Derived.ChangeOld
namespace Go.Proofs.Ytllnkjkoihmifaa.fnInTurned
open Go.ChangeShapes Go.WideShapes Go.ChangeAt Go.RowKit
set_option linter.unusedVariables false

set_option maxHeartbeats 8000000 in
set_option maxRecDepth 100000 in
theorem walk (A : Option Addr) (n c : Nat) (w : World) (hA : RdB w w.heap.size A n) (hm : n ≤ 9223372036854775807) :
    Calls Try.prog 7 #[.slice A n c] w fun e w' => e = .returned (.bool true) ∧ Below w.heap.size w w' := by
  obtain ⟨i0, hi0, hz0, hz1, hz2⟩ := info_parts info_tab
  rcases Nat.lt_or_ge 1048576 n with hn | hn
  · have hnz : (1048576 : Int) < (n : Int) := by omega
    go_enter Try.func7, Try.ntmps7
    go_wp2
    go_ret
    exact ⟨rfl, Below.refl _ _⟩
  have hnz : ¬ ((1048576 : Int) < (n : Int)) := by omega
  go_enter Try.func7, Try.ntmps7
  have HLE := Lib.hid (letter_any w)
  go_wp2_with fail
  go_at_call 20
  refine HLE.out.mono ?_
  rintro e wa ⟨Al, cl, rfl, hRl, hbl0⟩
  have HLI := Lib.hid (letterIn_any Al cl wa hRl)
  go_wp2_with fail
  go_at_call 15
  refine HLI.out.mono ?_
  rintro e wl ⟨rfl, hbl1⟩
  have hbl := hbl0.trans (hbl1.mono hbl0.size)
  have hAl : RdB wl wl.heap.size A n := (hA.keep fun p hp => hbl.cell hp).more hbl.size
  clear HLE HLI hbl0 hbl1 hRl
  have HDR := Lib.hid (drawIn_cap A n c wl hn hAl)
  go_wp2_with fail
  go_at_call 13
  refine HDR.out.mono ?_
  rintro e W ⟨A', c', ts, r, rfl, htl, hT, hsm, ⟨hc0, hc1⟩, hr0, hr1, hb1⟩
  clear HDR
  have hbW := hbl.trans (hb1.mono hbl.size)
  clear hbl hb1
  have HG := Lib.hid (allGood_any A' c' ts W (by omega) hT)
  go_wp2_with fail
  go_at_call 14
  refine HG.out.mono ?_
  rintro e wg ⟨rfl, hq⟩
  clear HG
  cases h1 : allGoodB ts
  · have hfin := hbW.trans (hq.mono hbW.size)
    go_wp2
    go_ret
    exact ⟨rfl, hfin⟩
  obtain ⟨hs, hp⟩ := allGoodB_true h1
  clear h1
  have hL0 := LstR.start hq
  go_wp2_with fail
  go_loopw [5, 6] (fun s5 s6 wr => ∃ (m : Nat) (A2 : Option Addr) (c2 : Nat) (fs : List Ent), m ≤ ts.length ∧ s5 = .slice A2 fs.length c2 ∧ s6 = .int .i64 ((m : Int) - 1) ∧ fs.map Ent.t = (ts.drop m).reverse ∧ LstR W A2 c2 fs wr) (fun _ s6 _ => (intOf s6 + 1).toNat)
  case atStart => exact ⟨ts.length, some ⟨wg.heap.size, 0, none⟩, 0, [], Nat.le_refl _, rfl, rfl, by simp, hL0⟩
  case round =>
    clear hL0
    obtain ⟨m, A2, c2, fs, hm, rfl, rfl, hfs, hL⟩ := hrel
    have HFS := Lib.hid hfs
    have hfl : fs.length ≤ 5 := by have := congrArg List.length hfs; rw [List.length_map, List.length_reverse, List.length_drop] at this; omega
    clear hfs
    have hqr := hL.2.2
    by_cases hlt : 0 < m
    · obtain ⟨j, rfl⟩ : ∃ j, m = j + 1 := ⟨m - 1, by omega⟩
      rw [show ((j + 1 : Nat) : Int) - 1 = (j : Int) from by omega]
      have j0 : (0 : Int) ≤ (j : Int) := by omega
      have j1 : (j : Int) < (ts.length : Int) := by omega
      obtain ⟨b, off, t, A16, c16, A32, c32, rfl, hb, ht, k0, k1, k2, ra, rb, l1, l2⟩ := hT.at_ (i := j) (by omega)
      replace k0 := (hqr.cell (p := ⟨b, _, none⟩) hb).trans k0
      replace k1 := (hqr.cell (p := ⟨b, _, none⟩) hb).trans k1
      replace k2 := (hqr.cell (p := ⟨b, _, none⟩) hb).trans k2
      have hnew : (fs ++ [(⟨A16, c16, A32, c32, t⟩ : Ent)]).map Ent.t = (ts.drop j).reverse := by
        obtain ⟨hj, rfl⟩ := List.getElem?_eq_some_iff.1 ht
        rw [List.map_append, HFS.out, List.drop_eq_getElem_cons hj, List.reverse_cons]
        rfl
      have HNEW := Lib.hid hnew; clear hnew ht
      have hown := hL.1
      have HL := Lib.hid hL; clear hL
      have hsz := hqr.size
      go_wp2_with (at_builtin; refine wpList_append_lies _ rfl _ _ _ rfl W.heap.size 35 i0 _ 3 56 Try.underlying23 hi0 hz0 hz1 hz2 rfl (by omega) (.slice A2 fs.length c2) fs.length (cellsE fs) rfl (hown.alloc _) ⟨wr.heap.size, 0, none⟩ 1 1 [.slice A16 t.a.length c16, .slice A32 t.b.length c32, .int .i64 t.n] rfl rfl (World.news_of_block (cs := #[.slice A16 t.a.length c16, .slice A32 t.b.length c32, .int .i64 t.n]) (t := 35) (fr := (0, 0)) (heap_alloc_new wr _)) (by simp [Value.oneCell']) (by omega) (by unfold maxLen; omega) (by omega) (by simp; omega) (wr.heap.size + 1) (by simp) ?_; intro gg cap wa hown2 hgrow hat hlt2)
      have hL2 := LstR.more (gs := [⟨A16, c16, A32, c32, t⟩]) (HL.out.alloc (.cells #[.slice A16 t.a.length c16, .slice A32 t.b.length c32, .int .i64 t.n] 35)) (fun x hx => by rw [List.mem_singleton] at hx; subst hx; exact ⟨ra, rb, l1, l2⟩) hown2 hgrow
      clear hown hown2 hgrow hat hlt2 k0 k1 k2 hqr
      go_wp2
      go_roundw
      case rel => exact ⟨j, _, _, fs ++ [⟨A16, c16, A32, c32, t⟩], by omega, by simp, rfl, HNEW.out, hL2⟩
      case measure => first | (simp [intOf]; done) | (simp [intOf]; omega)
    · obtain rfl : m = 0 := by omega
      have hany : (fs.map Ent.t).any (isB · r) = ts.any (isB · r) := by rw [HFS.out, List.drop_zero, List.any_reverse]
      have hs2 : SrtT (fs.map Ent.t) := fun t ht => by rw [HFS.out, List.drop_zero] at ht; exact hs t (List.mem_reverse.1 ht)
      have HANY := Lib.hid hany; clear hany
      cases hM : ts.any (isB · r)
      all_goals (
        have HM := Lib.hid hM; clear hM
        have HN := Lib.hid (HANY.out.trans HM.out)
        have HC2 := Lib.hid (HN.out ▸ implIn_lst r hL (by omega) hr0 hr1 hs2)
        go_wp2_with fail
        go_at_call 15
        refine HC2.out.mono ?_
        rintro e w2 ⟨rfl, hbn2⟩
        have hq2 := chain (W := W) hbn2 hqr
        clear HC2 hbn2
        have HC3 := Lib.hid (HM.out ▸ implIn_any A' c' ts r w2 hr0 hr1 (by omega) hs (hT.to hq2))
        go_wp2_with fail
        go_at_call 15
        refine HC3.out.mono ?_
        rintro e w3 ⟨rfl, hbn3⟩
        have hq3 := chain (W := W) hbn3 hq2
        clear HC3 hbn3
        have hfin := hbW.trans (hq3.mono hbW.size)
        go_wp2
        go_ret
        exact ⟨rfl, hfin⟩)

theorem own : ownKnob Try.prog.godebug = none := by kernel_rfl
theorem laidOut : laidOutB Try.prog = true := by kernel_rfl

set_option maxRecDepth 100000 in
theorem lifted (os : Os) (started : os.Started) (H : Type) (enc : TypeId × Value → H) :
    ReturnsInHanded {} Try.checked os 7 .any (Rows.fnInTurnedSpec.pre6 enc Try.prog Try.f7 Rows.fnInTurnedRow.domain false) (Rows.fnInTurnedSpec.post enc Try.prog Try.f7 false true false false) := by
  refine returnsInHanded_of_change (C := Try.checked) own started (by kernel_rfl) Try.func7
    (ChangeSpec.witness6 (enc := enc) (C := Try.checked) false ⟨#[], #[.slice none 0 0], []⟩ 8 (by kernel_rfl) (by kernel_rfl) (by kernel_rfl) (by kernel_rfl)) ?_
  intro W base args ds gs before hval0 hW hcnd _
  have hval : ∀ (j : Nat) t v, Try.f7.params[j]? = some t → args[j]? = some v → Value.okWide Try.prog W .any base t v := hval0
  have hW' := hW
  obtain ⟨p, q, hA0, hV, rfl, hfz, hnd⟩ := hW
  have hA : DataW.TrodAll enc Try.prog W 0 (fun _ => true) true Try.f7.params.toList args.toList ds p := hA0
  rw [Try.params7] at hA hval
  obtain ⟨v0, vs0, d0, ds0, p0, q0, hargs, rfl, rfl, h0, r0⟩ := trodAll_cons hA
  obtain ⟨rfl, rfl, rfl⟩ := trodAll_nil r0
  obtain rfl : args = #[v0] := by cases args; simp_all
  obtain ⟨rfl, rfl⟩ := trodVars_none hV
  obtain ⟨a0, len0, cap0, rfl⟩ := okWide_slice Try.underlying22 (hval 0 22 v0 rfl rfl)
  have k0 := h0
  have lt0 : ∀ x ∈ p0, x.block < W.heap.size := by obtain ⟨m, hm⟩ := k0; exact DataW.trod_lt m _ _ _ hm
  obtain ⟨hB, hM⟩ : RdB W W.heap.size a0 len0 ∧ len0 ≤ 9223372036854775807 := by
    obtain ⟨fuel, hf⟩ := h0
    rcases open_ints Try.underlying22 Try.underlying5 (by kernel_rfl) hf with ⟨hcs, _⟩ | ⟨x, l, c, zs, hcs, _, hl, hm, hz, _, hcell, hwz⟩
    · simp [Value.cells] at hcs
      obtain ⟨rfl, rfl, rfl⟩ := hcs
      exact ⟨fun h => absurd h (by omega), by omega⟩
    · simp [Value.cells] at hcs
      obtain ⟨rfl, rfl, rfl⟩ := hcs
      exact ⟨bytes_of hl (by simpa using hz) hcell hwz, by unfold maxLen at hm; omega⟩
  clear hA0 hval0
  refine (walk a0 len0 cap0 W hB hM).mono fun e W' ⟨he, bel⟩ => ?_
  subst he
  exact ⟨_, rfl, _, _, _, [], _, [], hW', trodAll_mk1 (shut_bool Try.underlying4 _), (trodAll_cons_mk (Below.trod laidOut (by kernel_rfl) (of_decide_eq_true (by kernel_rfl)) k0 bel lt0) trodAll_mk0), rfl, bel.frame _, fun h => by cases h⟩

theorem over : Rows.fnInTurnedRow.holds Try.pinned (OpenSpec.ofChange Rows.fnInTurnedSpec) :=
  OpenClaim.holds_of_wide 7 Try.f7 rfl rfl rfl rfl rfl rfl rfl ⟨rfl, rfl, rfl, rfl, rfl⟩ rfl rfl rfl rfl rfl (by kernel_rfl) Try.func7 (by kernel_rfl)
    (of_decide_eq_true (by kernel_rfl)) (by unfold Func.isWrapper; first | (rw [if_pos (by decide +kernel)]; kernel_rfl) | (rw [if_neg (by decide +kernel)]; exact ⟨rfl, rfl⟩))
    (fun os started H enc _ => lifted os started H enc)

theorem proved : Rows.FnInTurnedSaid := over
#print axioms proved
end Go.Proofs.Ytllnkjkoihmifaa.fnInTurned
