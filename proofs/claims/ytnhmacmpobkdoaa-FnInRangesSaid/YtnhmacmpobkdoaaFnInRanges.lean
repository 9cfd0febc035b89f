/- FnInRanges: for every input the law returns true, and what came in is as it was. No conditions. -/
import Derived.Test.YtnhmacmpobkdoaaRng
import Derived.Test.YtnhmacmpobkdoaaLawA
import Derived.Test.YtnhmacmpobkdoaaOnly
import Derived.Test.YtnhmacmpobkdoaaFill
import Derived.Test.YtnhmacmpobkdoaaRows
import Derived.Deep.RegionHeld3
import Derived.Deep.RegionWith
import Derived.ProofKit
import Derived.OpenShut
import Derived.ShutString
import Derived.ChangeOld
namespace Go.Proofs.Ytnhmacmpobkdoaa.fnInRanges
open Go.ChangeShapes Go.WideShapes Go.ChangeAt Go.RowKit
set_option linter.unusedVariables false

set_option maxHeartbeats 8000000 in
set_option maxRecDepth 100000 in
theorem walk (A : Option Addr) (n c : Nat) (w : World) (hA : RdB w w.heap.size A n) (hm : n ≤ 9223372036854775807) :
    Calls Try.prog 3 #[.slice A n c] w fun e w' => e = .returned (.bool true) ∧ Below w.heap.size w w' := by
  obtain ⟨i0, hi0, hz0, hz1, hz2⟩ := info_parts info_tab
  rcases Nat.lt_or_ge 1048576 n with hn | hn
  · have hnz : (1048576 : Int) < (n : Int) := by omega
    go_enter Try.func3, Try.ntmps3
    go_wp2
    go_ret
    exact ⟨rfl, Below.refl _ _⟩
  have hnz : ¬ ((1048576 : Int) < (n : Int)) := by omega
  go_enter Try.func3, Try.ntmps3
  have HLE := Lib.hid (letter_any w)
  go_wp2_with fail
  go_at_call 16
  refine HLE.out.mono ?_
  rintro e wa ⟨Al, cl, rfl, hRl, hbl0⟩
  have HLI := Lib.hid (letterIn_any Al cl wa hRl)
  go_wp2_with fail
  go_at_call 15
  refine HLI.out.mono ?_
  rintro e wl ⟨rfl, hbl1⟩
  have hbl := hbl0.trans (hbl1.mono hbl0.size)
  have hAl : RdB wl wl.heap.size A n := (hA.keep fun p hp => hbl.cell hp).more hbl.size
  clear HLE HLI hbl0 hbl1 hRl
  have HDR := Lib.hid (drawIs_any A n c wl hn hAl)
  go_wp2_with fail
  go_at_call 17
  refine HDR.out.mono ?_
  rintro e w1 ⟨A16, c16, A32, c32, a, b, tn, r, rfl, hT, hr0, hr1, hb1⟩
  clear HDR
  have hb0w := hbl.trans (hb1.mono hbl.size)
  have hal := (Below.refl w1.heap.size w1).alloc (Nat.le_refl _) (.cells #[.slice A16 a.length c16, .slice A32 b.length c32, .int .i64 tn] 27)
  have hnb := Bk.new w1 27 #[.slice A16 a.length c16, .slice A32 b.length c32, .int .i64 tn]
  have ra0 := hT.rd16.to hal
  have rb0 := hT.rd32.to hal
  have la : a.length ≤ 40 := hT.2.2.2.2.1
  have lb : b.length ≤ 40 := hT.2.2.2.2.2
  have hbW := hb0w.trans (hal.mono hb0w.size)
  have hszW : (w1.alloc (.cells #[.slice A16 a.length c16, .slice A32 b.length c32, .int .i64 tn] 27)).heap.size = w1.heap.size + 1 := by simp
  go_wp2_with fail
  generalize hW : w1.alloc (.cells #[.slice A16 a.length c16, .slice A32 b.length c32, .int .i64 tn] 27) = W at *
  have HW := Lib.hid hW; clear hW hb0w hT hb1 hal hbl
  have hsz0 : w1.heap.size < W.heap.size := by omega
  have keepS : ∀ w', Below W.heap.size W w' → w'.cell? ⟨w1.heap.size, 0, none⟩ = some (.slice A16 a.length c16) ∧ w'.cell? ⟨w1.heap.size, 1, none⟩ = some (.slice A32 b.length c32) ∧ w'.cell? ⟨w1.heap.size, 2, none⟩ = some (.int .i64 tn) ∧ Below W.heap.size W w' := fun w' h => by
    have hb := hnb.below h hsz0
    exact ⟨by rw [hb.cell]; rfl, by rw [hb.cell]; rfl, by rw [hb.cell]; rfl, h⟩
  have KS := Lib.hid keepS; clear keepS hnb hszW
  have hW0 : Below W.heap.size W W := Below.refl _ _
  have HG := Lib.hid (good_any A16 A32 c16 c32 a b tn W (by omega) (by omega) ra0 rb0)
  go_at_call 18
  refine HG.out.mono ?_
  rintro e wg ⟨rfl, hq⟩
  clear HG
  cases h1 : goodB ⟨a, b, tn⟩
  · have hfin := hbW.trans (hq.mono hbW.size)
    go_wp2
    go_ret
    exact ⟨rfl, hfin⟩
  obtain ⟨v1, v2, td1, td2, hlat⟩ := goodB_true h1
  have HLAT := Lib.hid hlat; have TD1 := Lib.hid td1; have TD2 := Lib.hid td2
  clear hlat td1 td2 h1
  obtain ⟨y0, y1, y2, -⟩ := KS.out wg hq
  have hL0 := Lst.start W.heap.size wg hq.size
  have hqs := bel_alloc (o := .cells #[] 27) hq
  have hsr := rngT_srt v1 v2
  have hny := rngT_any a b tn r
  have HNY := Lib.hid hny; clear hny
  go_wp2_with fail
  clear y0 y1 y2
  go_loopw [5, 6] (fun s5 s6 wr => ∃ (k : Nat) (A' : Option Addr) (c' : Nat) (es : List Ent), k ≤ a.length + b.length ∧ s5 = .slice A' es.length c' ∧ s6 = .int .i64 (k : Int) ∧ es.length ≤ k ∧ es.map Ent.t = (rngT a b).take k ∧ Lst W.heap.size A' c' es wr ∧ Below W.heap.size W wr) (fun _ s6 _ => a.length + b.length - (intOf s6).toNat)
  case atStart => exact ⟨0, _, 0, [], Nat.zero_le _, rfl, rfl, by simp, by simp, hL0, hqs⟩
  case round =>
    clear hL0 hqs
    obtain ⟨k, A', c', es, hk, rfl, rfl, hel, heq, hL, hqr⟩ := hrel
    have HEQ := Lib.hid heq; clear heq
    obtain ⟨y0, y1, y2, -⟩ := KS.out wr hqr
    by_cases hlt : k < a.length + b.length
    · have hlz : (k : Int) < (a.length : Int) + (b.length : Int) := by omega
      by_cases ka : k < a.length
      · skip
        have hC := only16_any A16 A32 c16 c32 a b tn k wr la lb (ra0.to hqr) (rb0.to hqr) ka
        have hat := rngT_a (b := b) ka
        generalize hp : [a.getD k ⟨0, 0, 0⟩] = p at hC hat
        generalize hqq : ([] : List Rg) = q at hC hat
        have lp : p.length ≤ 1 := by rw [← hp]; simp
        have lq : q.length ≤ 1 := by rw [← hqq]; simp
        clear hp hqq
        have HC := Lib.hid hC; have HAT := Lib.hid hat; clear hC hat
        go_wp2_with fail
        go_at_call 19
        refine HC.out.mono ?_
        rintro e w2 ⟨Aq, cq, Bq, dq, rfl, o16, o32, f16, f32, hb2⟩
        clear HC
        have hq2 := chain (W := W) hb2 hqr
        have hL2 := hL.below hb2
        have hT2 : TabO w2 W.heap.size Aq cq Bq dq p q := ⟨own_mono o16 hqr.size, own_mono o32 hqr.size, f16, f32, by omega, by omega⟩
        have hT3 := hT2.below ((Below.refl w2.heap.size w2).alloc (Nat.le_refl _) (.cells #[.slice Aq p.length cq, .slice Bq q.length dq, .int .i64 (latN p)] 27))
        have hL3 := hL2.alloc (.cells #[.slice Aq p.length cq, .slice Bq q.length dq, .int .i64 (latN p)] 27)
        have hq3 := bel_alloc (o := (.cells #[.slice Aq p.length cq, .slice Bq q.length dq, .int .i64 (latN p)] 27)) hq2
        have hown := hL2.1
        have hsz := hq2.size
        have HS := Lib.hid (⟨hT3, hL3, hq3⟩ : TabO _ _ _ _ _ _ _ _ ∧ Lst _ _ _ _ _ ∧ Below _ _ _)
        clear hL hb2 o16 o32 f16 f32 hq2 hL2 hT2 hT3 hL3 hq3 y0 y1 y2
        go_wp2_with (at_builtin; refine wpList_append_lies _ rfl _ _ _ rfl W.heap.size 27 i0 _ 3 56 Try.underlying29 hi0 hz0 hz1 hz2 rfl (by omega) (.slice A' es.length c') es.length (cellsE es) rfl (hown.alloc _) ⟨w2.heap.size, 0, none⟩ 1 1 [.slice Aq p.length cq, .slice Bq q.length dq, .int .i64 (latN p)] rfl rfl (World.news_of_block (cs := #[.slice Aq p.length cq, .slice Bq q.length dq, .int .i64 (latN p)]) (t := 27) (fr := (0, 0)) (heap_alloc_new w2 _)) (by simp [Value.oneCell']) (by omega) (by unfold maxLen; omega) (by omega) (by simp; omega) (w2.heap.size + 1) (by simp) ?_; intro gg cap wa hown2 hgrow hat hlt2)
        have hL4 := Lst.snoc (x := ⟨Aq, cq, Bq, dq, ⟨p, q, latN p⟩⟩) HS.out.2.1 HS.out.1 hown2 hgrow
        have hq4 := HS.out.2.2.grown hgrow HS.out.2.2.size (own_ge HS.out.2.1.1)
        have hnew : (es ++ [(⟨Aq, cq, Bq, dq, ⟨p, q, latN p⟩⟩ : Ent)]).map Ent.t = (rngT a b).take (k + 1) := by rw [List.map_append, HEQ.out, takeT_snoc HAT.out]; rfl
        have HNEW := Lib.hid hnew; have HS4 := Lib.hid (⟨hL4, hq4⟩ : Lst _ _ _ _ _ ∧ Below _ _ _)
        clear hown hown2 hgrow hat hlt2 hL4 hq4 hnew HS
        go_wp2
        go_roundw
        case rel => exact ⟨k + 1, _, _, es ++ [⟨Aq, cq, Bq, dq, ⟨p, q, latN p⟩⟩], by omega, by simp, by go_num, by simp; omega, HNEW.out, HS4.out.1, HS4.out.2⟩
        case measure => simp [intOf]; omega
      · skip
        have hC := only32_any A16 A32 c16 c32 a b tn k wr la lb (ra0.to hqr) (rb0.to hqr) (by omega) (by omega)
        have hat := rngT_b (a := a) (b := b) (k := k) (by omega) (by omega)
        generalize hqq : [b.getD (k - a.length) ⟨0, 0, 0⟩] = q at hC hat
        generalize hp : ([] : List Rg) = p at hC hat
        have lp : p.length ≤ 1 := by rw [← hp]; simp
        have lq : q.length ≤ 1 := by rw [← hqq]; simp
        clear hp hqq
        have HC := Lib.hid hC; have HAT := Lib.hid hat; clear hC hat
        go_wp2_with fail
        go_at_call 19
        refine HC.out.mono ?_
        rintro e w2 ⟨Aq, cq, Bq, dq, rfl, o16, o32, f16, f32, hb2⟩
        clear HC
        have hq2 := chain (W := W) hb2 hqr
        have hL2 := hL.below hb2
        have hT2 : TabO w2 W.heap.size Aq cq Bq dq p q := ⟨own_mono o16 hqr.size, own_mono o32 hqr.size, f16, f32, by omega, by omega⟩
        have hT3 := hT2.below ((Below.refl w2.heap.size w2).alloc (Nat.le_refl _) (.cells #[.slice Aq p.length cq, .slice Bq q.length dq, .int .i64 (latN p)] 27))
        have hL3 := hL2.alloc (.cells #[.slice Aq p.length cq, .slice Bq q.length dq, .int .i64 (latN p)] 27)
        have hq3 := bel_alloc (o := (.cells #[.slice Aq p.length cq, .slice Bq q.length dq, .int .i64 (latN p)] 27)) hq2
        have hown := hL2.1
        have hsz := hq2.size
        have HS := Lib.hid (⟨hT3, hL3, hq3⟩ : TabO _ _ _ _ _ _ _ _ ∧ Lst _ _ _ _ _ ∧ Below _ _ _)
        clear hL hb2 o16 o32 f16 f32 hq2 hL2 hT2 hT3 hL3 hq3 y0 y1 y2
        go_wp2_with (at_builtin; refine wpList_append_lies _ rfl _ _ _ rfl W.heap.size 27 i0 _ 3 56 Try.underlying29 hi0 hz0 hz1 hz2 rfl (by omega) (.slice A' es.length c') es.length (cellsE es) rfl (hown.alloc _) ⟨w2.heap.size, 0, none⟩ 1 1 [.slice Aq p.length cq, .slice Bq q.length dq, .int .i64 (latN p)] rfl rfl (World.news_of_block (cs := #[.slice Aq p.length cq, .slice Bq q.length dq, .int .i64 (latN p)]) (t := 27) (fr := (0, 0)) (heap_alloc_new w2 _)) (by simp [Value.oneCell']) (by omega) (by unfold maxLen; omega) (by omega) (by simp; omega) (w2.heap.size + 1) (by simp) ?_; intro gg cap wa hown2 hgrow hat hlt2)
        have hL4 := Lst.snoc (x := ⟨Aq, cq, Bq, dq, ⟨p, q, latN p⟩⟩) HS.out.2.1 HS.out.1 hown2 hgrow
        have hq4 := HS.out.2.2.grown hgrow HS.out.2.2.size (own_ge HS.out.2.1.1)
        have hnew : (es ++ [(⟨Aq, cq, Bq, dq, ⟨p, q, latN p⟩⟩ : Ent)]).map Ent.t = (rngT a b).take (k + 1) := by rw [List.map_append, HEQ.out, takeT_snoc HAT.out]; rfl
        have HNEW := Lib.hid hnew; have HS4 := Lib.hid (⟨hL4, hq4⟩ : Lst _ _ _ _ _ ∧ Below _ _ _)
        clear hown hown2 hgrow hat hlt2 hL4 hq4 hnew HS
        go_wp2
        go_roundw
        case rel => exact ⟨k + 1, _, _, es ++ [⟨Aq, cq, Bq, dq, ⟨p, q, latN p⟩⟩], by omega, by simp, by go_num, by simp; omega, HNEW.out, HS4.out.1, HS4.out.2⟩
        case measure => simp [intOf]; omega
    · have hlz : ¬ ((k : Int) < (a.length : Int) + (b.length : Int)) := by omega
      have hall : es.map Ent.t = rngT a b := by rw [HEQ.out]; exact List.take_of_length_le (by rw [rngT_length]; omega)
      have hsE : SrtT (es.map Ent.t) := by rw [hall]; exact hsr
      have hAny : (es.map Ent.t).any (isB · r) = isB ⟨a, b, tn⟩ r := by rw [hall]; exact HNY.out
      have HANY := Lib.hid hAny; clear hAny hall HEQ
      have kT : ∀ w', Below wr.heap.size wr w' → w'.cell? ⟨w1.heap.size, 0, none⟩ = some (.slice A16 a.length c16) ∧ w'.cell? ⟨w1.heap.size, 1, none⟩ = some (.slice A32 b.length c32) ∧ w'.cell? ⟨w1.heap.size, 2, none⟩ = some (.int .i64 tn) ∧ Below wr.heap.size wr w' := fun w' h => by
        obtain ⟨q0, q1, q2, -⟩ := KS.out w' (chain h hqr)
        exact ⟨q0, q1, q2, h⟩
      have KT := Lib.hid kT; clear kT
      have hel2 : es.length ≤ 100 := by omega
      have hr9 : Below wr.heap.size wr wr := Below.refl _ _
      cases hM : isB ⟨a, b, tn⟩ r
      all_goals (
        have hN := HANY.out.trans hM
        go_wp2_with fail
        go_region_held3 (fun w' => w'.cell? ⟨w1.heap.size, 0, none⟩ = some (.slice A16 a.length c16) ∧ w'.cell? ⟨w1.heap.size, 1, none⟩ = some (.slice A32 b.length c32) ∧ w'.cell? ⟨w1.heap.size, 2, none⟩ = some (.int .i64 tn) ∧ Below wr.heap.size wr w')
          (first
            | exact KT.out _ (by assumption)
            | exact KT.out _ (Below.drew (by assumption)))
          (first
            | (go_at_call 20; go_split_ands; refine (implIs_any A16 A32 c16 c32 a b tn r _ hr0 hr1 v1 v2 (ra0.to (chain (by assumption : Below wr.heap.size wr _) hqr)) (rb0.to (chain (by assumption : Below wr.heap.size wr _) hqr))).mono ?_; rintro e wn ⟨rfl, hbn⟩; have hqn := chain (W := wr) hbn (by assumption))
            | (go_at_call 15; go_split_ands; refine (implIn_Lst r (hL.below (by assumption)) hel2 hr0 hr1 hsE).mono ?_; rintro e wn ⟨rfl, hbn⟩; have hqn := chain (W := wr) hbn (by assumption)))
        all_goals (
          go_wp2
          go_ret
          refine ⟨rfl, hbW.trans (Below.mono (hqr.trans (Below.mono ?_ hqr.size)) hbW.size)⟩
          go_split_ands
          assumption))

theorem own : ownKnob Try.prog.godebug = none := by kernel_rfl
theorem laidOut : laidOutB Try.prog = true := by kernel_rfl

set_option maxRecDepth 100000 in
theorem lifted (os : Os) (started : os.Started) (H : Type) (enc : TypeId × Value → H) :
    ReturnsInHanded {} Try.checked os 3 .any (Rows.fnInRangesSpec.pre6 enc Try.prog Try.f3 Rows.fnInRangesRow.domain false) (Rows.fnInRangesSpec.post enc Try.prog Try.f3 false true false false) := by
  refine returnsInHanded_of_change (C := Try.checked) own started (by kernel_rfl) Try.func3
    (ChangeSpec.witness6 (enc := enc) (C := Try.checked) false ⟨#[], #[.slice none 0 0], []⟩ 8 (by kernel_rfl) (by kernel_rfl) (by kernel_rfl) (by kernel_rfl)) ?_
  intro W base args ds gs before hval0 hW hcnd _
  have hval : ∀ (j : Nat) t v, Try.f3.params[j]? = some t → args[j]? = some v → Value.okWide Try.prog W .any base t v := hval0
  have hW' := hW
  obtain ⟨p, q, hA0, hV, rfl, hfz, hnd⟩ := hW
  have hA : DataW.TrodAll enc Try.prog W 0 (fun _ => true) true Try.f3.params.toList args.toList ds p := hA0
  rw [Try.params3] at hA hval
  obtain ⟨v0, vs0, d0, ds0, p0, q0, hargs, rfl, rfl, h0, r0⟩ := trodAll_cons hA
  obtain ⟨rfl, rfl, rfl⟩ := trodAll_nil r0
  obtain rfl : args = #[v0] := by cases args; simp_all
  obtain ⟨rfl, rfl⟩ := trodVars_none hV
  obtain ⟨a0, len0, cap0, rfl⟩ := okWide_slice Try.underlying22 (hval 0 22 v0 rfl rfl)
  have k0 := h0
  have lt0 : ∀ x ∈ p0, x.block < W.heap.size := by obtain ⟨m, hm⟩ := k0; exact DataW.trod_lt m _ _ _ hm
  obtain ⟨hB, hM⟩ : RdB W W.heap.size a0 len0 ∧ len0 ≤ 9223372036854775807 := by
    obtain ⟨fuel, hf⟩ := h0
    rcases open_ints Try.underlying22 Try.underlying5 (by kernel_rfl) hf with ⟨hcs, _⟩ | ⟨x, l, c, zs, hcs, _, hl, hm, hz, _, hcell, hwz⟩
    · simp [Value.cells] at hcs
      obtain ⟨rfl, rfl, rfl⟩ := hcs
      exact ⟨fun h => absurd h (by omega), by omega⟩
    · simp [Value.cells] at hcs
      obtain ⟨rfl, rfl, rfl⟩ := hcs
      exact ⟨bytes_of hl (by simpa using hz) hcell hwz, by unfold maxLen at hm; omega⟩
  clear hA0 hval0
  refine (walk a0 len0 cap0 W hB hM).mono fun e W' ⟨he, bel⟩ => ?_
  subst he
  exact ⟨_, rfl, _, _, _, [], _, [], hW', trodAll_mk1 (shut_bool Try.underlying4 _), (trodAll_cons_mk (Below.trod laidOut (by kernel_rfl) (of_decide_eq_true (by kernel_rfl)) k0 bel lt0) trodAll_mk0), rfl, bel.frame _, fun h => by cases h⟩

theorem over : Rows.fnInRangesRow.holds Try.pinned (OpenSpec.ofChange Rows.fnInRangesSpec) :=
  OpenClaim.holds_of_wide 3 Try.f3 rfl rfl rfl rfl rfl rfl rfl ⟨rfl, rfl, rfl, rfl, rfl⟩ rfl rfl rfl rfl rfl (by kernel_rfl) Try.func3 (by kernel_rfl)
    (of_decide_eq_true (by kernel_rfl)) (by unfold Func.isWrapper; first | (rw [if_pos (by decide +kernel)]; kernel_rfl) | (rw [if_neg (by decide +kernel)]; exact ⟨rfl, rfl⟩))
    (fun os started H enc _ => lifted os started H enc)

theorem proved : Rows.FnInRangesSaid := over
#print axioms proved
end Go.Proofs.Ytnhmacmpobkdoaa.fnInRanges
