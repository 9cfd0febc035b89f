/- FnIsWithout: for every input the law returns true, and what came in is as it was. No conditions. -/
import Derived.Test.YtnhmacmpobkdoaaLawL
import Derived.Test.YtnhmacmpobkdoaaDrawH
import Derived.Test.YtnhmacmpobkdoaaWout
import Derived.Test.YtnhmacmpobkdoaaWuut
import Derived.Test.YtnhmacmpobkdoaaOnly
import Derived.Test.YtnhmacmpobkdoaaPlainX
import Derived.Test.YtnhmacmpobkdoaaLawV
import Derived.Test.YtnhmacmpobkdoaaRows
import Derived.Deep.RegionHeld3
import Derived.Deep.RegionWith
import Derived.ProofKit
import Derived.OpenShut
import Derived.ShutString
import Derived.ChangeOld
namespace Go.Proofs.Ytnhmacmpobkdoaa.fnIsWithout
open Go.ChangeShapes Go.WideShapes Go.ChangeAt Go.RowKit
set_option linter.unusedVariables false

set_option maxHeartbeats 8000000 in
set_option maxRecDepth 100000 in
theorem walk (A : Option Addr) (n c : Nat) (w : World) (hA : RdB w w.heap.size A n) (hm : n ≤ 9223372036854775807) :
    Calls Try.prog 11 #[.slice A n c] w fun e w' => e = .returned (.bool true) ∧ Below w.heap.size w w' := by
  rcases Nat.lt_or_ge 1048576 n with hn | hn
  · have hnz : (1048576 : Int) < (n : Int) := by omega
    go_enter Try.func11, Try.ntmps11
    go_wp2
    go_ret
    exact ⟨rfl, Below.refl _ _⟩
  have hnz : ¬ ((1048576 : Int) < (n : Int)) := by omega
  go_enter Try.func11, Try.ntmps11
  have HLE := Lib.hid (letter_any w)
  go_wp2_with fail
  go_at_call 16
  refine HLE.out.mono ?_
  rintro e wa ⟨Al, cl, rfl, hRl, hbl0⟩
  have HLI := Lib.hid (letterIs_any Al cl wa hRl)
  go_wp2_with fail
  go_at_call 20
  refine HLI.out.mono ?_
  rintro e wl ⟨rfl, hbl1⟩
  have hbl := hbl0.trans (hbl1.mono hbl0.size)
  have hAl : RdB wl wl.heap.size A n := (hA.keep fun p hp => hbl.cell hp).more hbl.size
  clear HLE HLI hbl0 hbl1 hRl
  have HDR := Lib.hid (drawRange_any A n c wl hn hAl)
  go_wp2_with fail
  go_at_call 32
  refine HDR.out.mono ?_
  rintro e w1 ⟨A16, c16, A32, c32, a, b, tn, r, k, rfl, hkle, hT, hr0, hr1, hb1⟩
  clear HDR
  have na : A16 = none → a.length = 0 ∧ c16 = 0 := own_nil hT.1
  have nb : A32 = none → b.length = 0 ∧ c32 = 0 := own_nil hT.2.1
  obtain ⟨ca, ca1⟩ := own_cap hT.1
  obtain ⟨cb, cb1⟩ := own_cap hT.2.1
  unfold maxLen at ca1 cb1
  have hb0w := hbl.trans (hb1.mono hbl.size)
  have hal := (Below.refl w1.heap.size w1).alloc (Nat.le_refl _) (.cells #[.slice A16 a.length c16, .slice A32 b.length c32, .int .i64 tn] 27)
  have hnb := Bk.new w1 27 #[.slice A16 a.length c16, .slice A32 b.length c32, .int .i64 tn]
  have ra0 := hT.rd16.to hal
  have rb0 := hT.rd32.to hal
  have la : a.length ≤ 40 := hT.2.2.2.2.1
  have lb : b.length ≤ 40 := hT.2.2.2.2.2
  have hbW := hb0w.trans (hal.mono hb0w.size)
  have hszW : (w1.alloc (.cells #[.slice A16 a.length c16, .slice A32 b.length c32, .int .i64 tn] 27)).heap.size = w1.heap.size + 1 := by simp
  go_wp2_with fail
  generalize hW : w1.alloc (.cells #[.slice A16 a.length c16, .slice A32 b.length c32, .int .i64 tn] 27) = W at *
  have HW := Lib.hid hW; clear hW hb0w hT hb1 hal hbl
  have hsz0 : w1.heap.size < W.heap.size := by omega
  have keepS : ∀ w', Below W.heap.size W w' → w'.cell? ⟨w1.heap.size, 0, none⟩ = some (.slice A16 a.length c16) ∧ w'.cell? ⟨w1.heap.size, 1, none⟩ = some (.slice A32 b.length c32) ∧ w'.cell? ⟨w1.heap.size, 2, none⟩ = some (.int .i64 tn) ∧ Below W.heap.size W w' := fun w' h => by
    have hb := hnb.below h hsz0
    exact ⟨by rw [hb.cell]; rfl, by rw [hb.cell]; rfl, by rw [hb.cell]; rfl, h⟩
  have KS := Lib.hid keepS; clear keepS hnb hszW
  have hW0 : Below W.heap.size W W := Below.refl _ _
  have HG := Lib.hid (good_any A16 A32 c16 c32 a b tn W (by omega) (by omega) ra0 rb0)
  go_at_call 18
  refine HG.out.mono ?_
  rintro e wg ⟨rfl, hq⟩
  clear HG
  cases h1 : goodB ⟨a, b, tn⟩
  · have hfin := hbW.trans (hq.mono hbW.size)
    go_wp2
    go_ret
    exact ⟨rfl, hfin⟩
  obtain ⟨v1, v2, td1, td2, hlat⟩ := goodB_true h1
  have HLAT := Lib.hid hlat; have TD1 := Lib.hid td1; have TD2 := Lib.hid td2
  clear hlat td1 td2 h1
  obtain ⟨y0, y1, y2, -⟩ := KS.out wg hq
  by_cases hk : a.length + b.length ≤ k
  · have hkz : (a.length : Int) + (b.length : Int) ≤ (k : Int) := by omega
    have hfin := hbW.trans (hq.mono hbW.size)
    go_wp2
    go_ret
    exact ⟨rfl, hfin⟩
  have hkz : ¬ ((a.length : Int) + (b.length : Int) ≤ (k : Int)) := by omega
  by_cases ka : k < a.length
  · skip
    have hW := without16_any A16 A32 c16 c32 a b tn k wg la lb (ra0.to hq) (rb0.to hq) na nb ca cb ca1 cb1 ka
    have hO := fun W h1 h2 => only16_any A16 A32 c16 c32 a b tn k W la lb h1 h2 ka
    have hw := wo16 v1 v2 ka (latN (a.take k ++ a.drop (k + 1))) (latN [a.getD k ⟨0, 0, 0⟩]) tn r
    have u1 := (v1.srtR.less k).srt
    have u2 := v2
    have u3 := one_srt v1 ka
    have u4 := srt_nil 65536 1114111
    generalize a.take k ++ a.drop (k + 1) = p at *
    generalize hs0 : [a.getD k ⟨0, 0, 0⟩] = s at *
    clear hs0
    generalize he0 : ([] : List Rg) = e at *
    clear he0
    have HWO := Lib.hid hW; have HON := Lib.hid hO; clear hW hO
    rcases hw with ⟨m1, m2, m3⟩ | ⟨m1, m2, m3⟩ | ⟨m1, m2, m3⟩
    · have E1 := Lib.hid m1; have E2 := Lib.hid m2; have E3 := Lib.hid m3; clear m1 m2 m3
      go_wp2_with fail
      go_at_call 33
      refine HWO.out.mono ?_
      rintro e w2 hmade
      obtain ⟨Aq, cq, Bq, dq, rfl, rq, sq, hbn2⟩ := hmade.rd16
      have hq2 := chain (W := W) hbn2 hq
      clear HWO hbn2 hmade y0 y1 y2
      have HC3 := Lib.hid (E1.out ▸ implIs_any Aq Bq cq dq p b (latN p) r w2 hr0 hr1 u1 u2 rq sq)
      go_wp2_with fail
      go_at_call 20
      refine HC3.out.mono ?_
      rintro e w3 ⟨rfl, hbn3⟩
      have hq3 := chain (W := W) hbn3 hq2
      clear HC3 hbn3
      obtain ⟨y0, y1, y2, -⟩ := KS.out w3 hq3
      have HO3 := Lib.hid (HON.out w3 (ra0.to hq3) (rb0.to hq3)); clear HON
      go_wp2_with fail
      go_at_call 19
      refine HO3.out.mono ?_
      rintro e w4 hmade
      obtain ⟨Az, cz, Bz, dz, rfl, rz, sz, hbn4⟩ := hmade.rd16
      have hq4 := chain (W := W) hbn4 hq3
      clear HO3 hbn4 hmade y0 y1 y2
      have HC5 := Lib.hid (E2.out ▸ implIs_any Az Bz cz dz s e (latN s) r w4 hr0 hr1 u3 u4 rz sz)
      go_wp2_with fail
      go_at_call 20
      refine HC5.out.mono ?_
      rintro e w5 ⟨rfl, hbn5⟩
      have hq5 := chain (W := W) hbn5 hq4
      clear HC5 hbn5
      obtain ⟨y0, y1, y2, -⟩ := KS.out w5 hq5
      have HC6 := Lib.hid (E3.out ▸ implIs_any A16 A32 c16 c32 a b tn r w5 hr0 hr1 v1 v2 (ra0.to hq5) (rb0.to hq5))
      go_wp2_with fail
      go_at_call 20
      refine HC6.out.mono ?_
      rintro e w6 ⟨rfl, hbn6⟩
      have hq6 := chain (W := W) hbn6 hq5
      clear HC6 hbn6
      have hfin := hbW.trans (hq6.mono hbW.size)
      clear y0 y1 y2
      go_wp2
      go_ret
      exact ⟨rfl, hfin⟩
    · have E1 := Lib.hid m1; have E2 := Lib.hid m2; have E3 := Lib.hid m3; clear m1 m2 m3
      go_wp2_with fail
      go_at_call 33
      refine HWO.out.mono ?_
      rintro e w2 hmade
      obtain ⟨Aq, cq, Bq, dq, rfl, rq, sq, hbn2⟩ := hmade.rd16
      have hq2 := chain (W := W) hbn2 hq
      clear HWO hbn2 hmade y0 y1 y2
      have HC3 := Lib.hid (E1.out ▸ implIs_any Aq Bq cq dq p b (latN p) r w2 hr0 hr1 u1 u2 rq sq)
      go_wp2_with fail
      go_at_call 20
      refine HC3.out.mono ?_
      rintro e w3 ⟨rfl, hbn3⟩
      have hq3 := chain (W := W) hbn3 hq2
      clear HC3 hbn3
      obtain ⟨y0, y1, y2, -⟩ := KS.out w3 hq3
      have HO3 := Lib.hid (HON.out w3 (ra0.to hq3) (rb0.to hq3)); clear HON
      go_wp2_with fail
      go_at_call 19
      refine HO3.out.mono ?_
      rintro e w4 hmade
      obtain ⟨Az, cz, Bz, dz, rfl, rz, sz, hbn4⟩ := hmade.rd16
      have hq4 := chain (W := W) hbn4 hq3
      clear HO3 hbn4 hmade y0 y1 y2
      have HC5 := Lib.hid (E2.out ▸ implIs_any Az Bz cz dz s e (latN s) r w4 hr0 hr1 u3 u4 rz sz)
      go_wp2_with fail
      go_at_call 20
      refine HC5.out.mono ?_
      rintro e w5 ⟨rfl, hbn5⟩
      have hq5 := chain (W := W) hbn5 hq4
      clear HC5 hbn5
      obtain ⟨y0, y1, y2, -⟩ := KS.out w5 hq5
      have HC6 := Lib.hid (E3.out ▸ implIs_any A16 A32 c16 c32 a b tn r w5 hr0 hr1 v1 v2 (ra0.to hq5) (rb0.to hq5))
      go_wp2_with fail
      go_at_call 20
      refine HC6.out.mono ?_
      rintro e w6 ⟨rfl, hbn6⟩
      have hq6 := chain (W := W) hbn6 hq5
      clear HC6 hbn6
      have hfin := hbW.trans (hq6.mono hbW.size)
      clear y0 y1 y2
      go_wp2
      go_ret
      exact ⟨rfl, hfin⟩
    · have E1 := Lib.hid m1; have E2 := Lib.hid m2; have E3 := Lib.hid m3; clear m1 m2 m3
      go_wp2_with fail
      go_at_call 33
      refine HWO.out.mono ?_
      rintro e w2 hmade
      obtain ⟨Aq, cq, Bq, dq, rfl, rq, sq, hbn2⟩ := hmade.rd16
      have hq2 := chain (W := W) hbn2 hq
      clear HWO hbn2 hmade y0 y1 y2
      have HC3 := Lib.hid (E1.out ▸ implIs_any Aq Bq cq dq p b (latN p) r w2 hr0 hr1 u1 u2 rq sq)
      go_wp2_with fail
      go_at_call 20
      refine HC3.out.mono ?_
      rintro e w3 ⟨rfl, hbn3⟩
      have hq3 := chain (W := W) hbn3 hq2
      clear HC3 hbn3
      obtain ⟨y0, y1, y2, -⟩ := KS.out w3 hq3
      have HO3 := Lib.hid (HON.out w3 (ra0.to hq3) (rb0.to hq3)); clear HON
      go_wp2_with fail
      go_at_call 19
      refine HO3.out.mono ?_
      rintro e w4 hmade
      obtain ⟨Az, cz, Bz, dz, rfl, rz, sz, hbn4⟩ := hmade.rd16
      have hq4 := chain (W := W) hbn4 hq3
      clear HO3 hbn4 hmade y0 y1 y2
      have HC5 := Lib.hid (E2.out ▸ implIs_any Az Bz cz dz s e (latN s) r w4 hr0 hr1 u3 u4 rz sz)
      go_wp2_with fail
      go_at_call 20
      refine HC5.out.mono ?_
      rintro e w5 ⟨rfl, hbn5⟩
      have hq5 := chain (W := W) hbn5 hq4
      clear HC5 hbn5
      obtain ⟨y0, y1, y2, -⟩ := KS.out w5 hq5
      have HC6 := Lib.hid (E3.out ▸ implIs_any A16 A32 c16 c32 a b tn r w5 hr0 hr1 v1 v2 (ra0.to hq5) (rb0.to hq5))
      go_wp2_with fail
      go_at_call 20
      refine HC6.out.mono ?_
      rintro e w6 ⟨rfl, hbn6⟩
      have hq6 := chain (W := W) hbn6 hq5
      clear HC6 hbn6
      have hfin := hbW.trans (hq6.mono hbW.size)
      clear y0 y1 y2
      go_wp2
      go_ret
      exact ⟨rfl, hfin⟩
  · have kb : k - a.length < b.length := by omega
    have hW := without32_any A16 A32 c16 c32 a b tn k wg la lb (ra0.to hq) (rb0.to hq) na nb ca cb ca1 cb1 (by omega) kb
    have hO := fun W h1 h2 => only32_any A16 A32 c16 c32 a b tn k W la lb h1 h2 (by omega) kb
    have hw := wo32 v1 v2 kb (latN a) (latN []) tn r
    have u1 := v1
    have u2 := (v2.srtR.less (k - a.length)).srt
    have u3 := srt_nil 0 65535
    have u4 := one_srt v2 kb
    generalize b.take (k - a.length) ++ b.drop (k - a.length + 1) = p at *
    generalize hs0 : [b.getD (k - a.length) ⟨0, 0, 0⟩] = s at *
    clear hs0
    generalize he0 : ([] : List Rg) = e at *
    clear he0
    have HWO := Lib.hid hW; have HON := Lib.hid hO; clear hW hO
    rcases hw with ⟨m1, m2, m3⟩ | ⟨m1, m2, m3⟩ | ⟨m1, m2, m3⟩
    · have E1 := Lib.hid m1; have E2 := Lib.hid m2; have E3 := Lib.hid m3; clear m1 m2 m3
      go_wp2_with fail
      go_at_call 33
      refine HWO.out.mono ?_
      rintro e w2 hmade
      obtain ⟨Aq, cq, Bq, dq, rfl, rq, sq, hbn2⟩ := hmade.rd16
      have hq2 := chain (W := W) hbn2 hq
      clear HWO hbn2 hmade y0 y1 y2
      have HC3 := Lib.hid (E1.out ▸ implIs_any Aq Bq cq dq a p (latN a) r w2 hr0 hr1 u1 u2 rq sq)
      go_wp2_with fail
      go_at_call 20
      refine HC3.out.mono ?_
      rintro e w3 ⟨rfl, hbn3⟩
      have hq3 := chain (W := W) hbn3 hq2
      clear HC3 hbn3
      obtain ⟨y0, y1, y2, -⟩ := KS.out w3 hq3
      have HO3 := Lib.hid (HON.out w3 (ra0.to hq3) (rb0.to hq3)); clear HON
      go_wp2_with fail
      go_at_call 19
      refine HO3.out.mono ?_
      rintro e w4 hmade
      obtain ⟨Az, cz, Bz, dz, rfl, rz, sz, hbn4⟩ := hmade.rd16
      have hq4 := chain (W := W) hbn4 hq3
      clear HO3 hbn4 hmade y0 y1 y2
      have HC5 := Lib.hid (E2.out ▸ implIs_any Az Bz cz dz e s (latN e) r w4 hr0 hr1 u3 u4 rz sz)
      go_wp2_with fail
      go_at_call 20
      refine HC5.out.mono ?_
      rintro e w5 ⟨rfl, hbn5⟩
      have hq5 := chain (W := W) hbn5 hq4
      clear HC5 hbn5
      obtain ⟨y0, y1, y2, -⟩ := KS.out w5 hq5
      have HC6 := Lib.hid (E3.out ▸ implIs_any A16 A32 c16 c32 a b tn r w5 hr0 hr1 v1 v2 (ra0.to hq5) (rb0.to hq5))
      go_wp2_with fail
      go_at_call 20
      refine HC6.out.mono ?_
      rintro e w6 ⟨rfl, hbn6⟩
      have hq6 := chain (W := W) hbn6 hq5
      clear HC6 hbn6
      have hfin := hbW.trans (hq6.mono hbW.size)
      clear y0 y1 y2
      go_wp2
      go_ret
      exact ⟨rfl, hfin⟩
    · have E1 := Lib.hid m1; have E2 := Lib.hid m2; have E3 := Lib.hid m3; clear m1 m2 m3
      go_wp2_with fail
      go_at_call 33
      refine HWO.out.mono ?_
      rintro e w2 hmade
      obtain ⟨Aq, cq, Bq, dq, rfl, rq, sq, hbn2⟩ := hmade.rd16
      have hq2 := chain (W := W) hbn2 hq
      clear HWO hbn2 hmade y0 y1 y2
      have HC3 := Lib.hid (E1.out ▸ implIs_any Aq Bq cq dq a p (latN a) r w2 hr0 hr1 u1 u2 rq sq)
      go_wp2_with fail
      go_at_call 20
      refine HC3.out.mono ?_
      rintro e w3 ⟨rfl, hbn3⟩
      have hq3 := chain (W := W) hbn3 hq2
      clear HC3 hbn3
      obtain ⟨y0, y1, y2, -⟩ := KS.out w3 hq3
      have HO3 := Lib.hid (HON.out w3 (ra0.to hq3) (rb0.to hq3)); clear HON
      go_wp2_with fail
      go_at_call 19
      refine HO3.out.mono ?_
      rintro e w4 hmade
      obtain ⟨Az, cz, Bz, dz, rfl, rz, sz, hbn4⟩ := hmade.rd16
      have hq4 := chain (W := W) hbn4 hq3
      clear HO3 hbn4 hmade y0 y1 y2
      have HC5 := Lib.hid (E2.out ▸ implIs_any Az Bz cz dz e s (latN e) r w4 hr0 hr1 u3 u4 rz sz)
      go_wp2_with fail
      go_at_call 20
      refine HC5.out.mono ?_
      rintro e w5 ⟨rfl, hbn5⟩
      have hq5 := chain (W := W) hbn5 hq4
      clear HC5 hbn5
      obtain ⟨y0, y1, y2, -⟩ := KS.out w5 hq5
      have HC6 := Lib.hid (E3.out ▸ implIs_any A16 A32 c16 c32 a b tn r w5 hr0 hr1 v1 v2 (ra0.to hq5) (rb0.to hq5))
      go_wp2_with fail
      go_at_call 20
      refine HC6.out.mono ?_
      rintro e w6 ⟨rfl, hbn6⟩
      have hq6 := chain (W := W) hbn6 hq5
      clear HC6 hbn6
      have hfin := hbW.trans (hq6.mono hbW.size)
      clear y0 y1 y2
      go_wp2
      go_ret
      exact ⟨rfl, hfin⟩
    · have E1 := Lib.hid m1; have E2 := Lib.hid m2; have E3 := Lib.hid m3; clear m1 m2 m3
      go_wp2_with fail
      go_at_call 33
      refine HWO.out.mono ?_
      rintro e w2 hmade
      obtain ⟨Aq, cq, Bq, dq, rfl, rq, sq, hbn2⟩ := hmade.rd16
      have hq2 := chain (W := W) hbn2 hq
      clear HWO hbn2 hmade y0 y1 y2
      have HC3 := Lib.hid (E1.out ▸ implIs_any Aq Bq cq dq a p (latN a) r w2 hr0 hr1 u1 u2 rq sq)
      go_wp2_with fail
      go_at_call 20
      refine HC3.out.mono ?_
      rintro e w3 ⟨rfl, hbn3⟩
      have hq3 := chain (W := W) hbn3 hq2
      clear HC3 hbn3
      obtain ⟨y0, y1, y2, -⟩ := KS.out w3 hq3
      have HO3 := Lib.hid (HON.out w3 (ra0.to hq3) (rb0.to hq3)); clear HON
      go_wp2_with fail
      go_at_call 19
      refine HO3.out.mono ?_
      rintro e w4 hmade
      obtain ⟨Az, cz, Bz, dz, rfl, rz, sz, hbn4⟩ := hmade.rd16
      have hq4 := chain (W := W) hbn4 hq3
      clear HO3 hbn4 hmade y0 y1 y2
      have HC5 := Lib.hid (E2.out ▸ implIs_any Az Bz cz dz e s (latN e) r w4 hr0 hr1 u3 u4 rz sz)
      go_wp2_with fail
      go_at_call 20
      refine HC5.out.mono ?_
      rintro e w5 ⟨rfl, hbn5⟩
      have hq5 := chain (W := W) hbn5 hq4
      clear HC5 hbn5
      obtain ⟨y0, y1, y2, -⟩ := KS.out w5 hq5
      have HC6 := Lib.hid (E3.out ▸ implIs_any A16 A32 c16 c32 a b tn r w5 hr0 hr1 v1 v2 (ra0.to hq5) (rb0.to hq5))
      go_wp2_with fail
      go_at_call 20
      refine HC6.out.mono ?_
      rintro e w6 ⟨rfl, hbn6⟩
      have hq6 := chain (W := W) hbn6 hq5
      clear HC6 hbn6
      have hfin := hbW.trans (hq6.mono hbW.size)
      clear y0 y1 y2
      go_wp2
      go_ret
      exact ⟨rfl, hfin⟩

theorem own : ownKnob Try.prog.godebug = none := by kernel_rfl
theorem laidOut : laidOutB Try.prog = true := by kernel_rfl

set_option maxRecDepth 100000 in
theorem lifted (os : Os) (started : os.Started) (H : Type) (enc : TypeId × Value → H) :
    ReturnsInHanded {} Try.checked os 11 .any (Rows.fnIsWithoutSpec.pre6 enc Try.prog Try.f11 Rows.fnIsWithoutRow.domain false) (Rows.fnIsWithoutSpec.post enc Try.prog Try.f11 false true false false) := by
  refine returnsInHanded_of_change (C := Try.checked) own started (by kernel_rfl) Try.func11
    (ChangeSpec.witness6 (enc := enc) (C := Try.checked) false ⟨#[], #[.slice none 0 0], []⟩ 8 (by kernel_rfl) (by kernel_rfl) (by kernel_rfl) (by kernel_rfl)) ?_
  intro W base args ds gs before hval0 hW hcnd _
  have hval : ∀ (j : Nat) t v, Try.f11.params[j]? = some t → args[j]? = some v → Value.okWide Try.prog W .any base t v := hval0
  have hW' := hW
  obtain ⟨p, q, hA0, hV, rfl, hfz, hnd⟩ := hW
  have hA : DataW.TrodAll enc Try.prog W 0 (fun _ => true) true Try.f11.params.toList args.toList ds p := hA0
  rw [Try.params11] at hA hval
  obtain ⟨v0, vs0, d0, ds0, p0, q0, hargs, rfl, rfl, h0, r0⟩ := trodAll_cons hA
  obtain ⟨rfl, rfl, rfl⟩ := trodAll_nil r0
  obtain rfl : args = #[v0] := by cases args; simp_all
  obtain ⟨rfl, rfl⟩ := trodVars_none hV
  obtain ⟨a0, len0, cap0, rfl⟩ := okWide_slice Try.underlying22 (hval 0 22 v0 rfl rfl)
  have k0 := h0
  have lt0 : ∀ x ∈ p0, x.block < W.heap.size := by obtain ⟨m, hm⟩ := k0; exact DataW.trod_lt m _ _ _ hm
  obtain ⟨hB, hM⟩ : RdB W W.heap.size a0 len0 ∧ len0 ≤ 9223372036854775807 := by
    obtain ⟨fuel, hf⟩ := h0
    rcases open_ints Try.underlying22 Try.underlying5 (by kernel_rfl) hf with ⟨hcs, _⟩ | ⟨x, l, c, zs, hcs, _, hl, hm, hz, _, hcell, hwz⟩
    · simp [Value.cells] at hcs
      obtain ⟨rfl, rfl, rfl⟩ := hcs
      exact ⟨fun h => absurd h (by omega), by omega⟩
    · simp [Value.cells] at hcs
      obtain ⟨rfl, rfl, rfl⟩ := hcs
      exact ⟨bytes_of hl (by simpa using hz) hcell hwz, by unfold maxLen at hm; omega⟩
  clear hA0 hval0
  refine (walk a0 len0 cap0 W hB hM).mono fun e W' ⟨he, bel⟩ => ?_
  subst he
  exact ⟨_, rfl, _, _, _, [], _, [], hW', trodAll_mk1 (shut_bool Try.underlying4 _), (trodAll_cons_mk (Below.trod laidOut (by kernel_rfl) (of_decide_eq_true (by kernel_rfl)) k0 bel lt0) trodAll_mk0), rfl, bel.frame _, fun h => by cases h⟩

theorem over : Rows.fnIsWithoutRow.holds Try.pinned (OpenSpec.ofChange Rows.fnIsWithoutSpec) :=
  OpenClaim.holds_of_wide 11 Try.f11 rfl rfl rfl rfl rfl rfl rfl ⟨rfl, rfl, rfl, rfl, rfl⟩ rfl rfl rfl rfl rfl (by kernel_rfl) Try.func11 (by kernel_rfl)
    (of_decide_eq_true (by kernel_rfl)) (by unfold Func.isWrapper; first | (rw [if_pos (by decide +kernel)]; kernel_rfl) | (rw [if_neg (by decide +kernel)]; exact ⟨rfl, rfl⟩))
    (fun os started H enc _ => lifted os started H enc)

theorem proved : Rows.FnIsWithoutSaid := over
#print axioms proved
end Go.Proofs.Ytnhmacmpobkdoaa.fnIsWithout
