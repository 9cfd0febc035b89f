/- The older entry point, in the library and in the thin package: a number is in one of the tables exactly if it is in one of their ranges. Conditions: the tables' lists are sorted, within their bounds, and lie in memory. -/
import Derived.Test.YtllnkjkoihmifaaTabs
namespace Go.Proofs.Ytllnkjkoihmifaa
open Go.RowKit
set_option linter.unusedVariables false

set_option maxHeartbeats 1000000 in
set_option maxRecDepth 100000 in
theorem uniOneOf_any (A : Option Addr) (c : Nat) (ts : List Tab) (r : Int) (w : World) (hr0 : -2147483648 ≤ r) (hr1 : r ≤ 2147483647) (hl : ts.length ≤ 9223372036854775807) (hs : SrtT ts) (hr : RdP w A c ts) :
    Calls Try.prog 33 #[.slice A ts.length c, .int .i32 r] w fun e w' => e = .returned (.bool (ts.any (isB · r))) ∧ Below w.heap.size w w' := by
  generalize hANS : ts.any (isB · r) = ANS
  have HA := Lib.hid hANS; clear hANS
  go_enter Try.func33, Try.ntmps33
  go_wp2
  go_loopw [9] (fun s wr => ∃ (i : Nat), i ≤ ts.length ∧ s = .int .i64 i ∧ AllU (fun t => !isB t r) ts i ∧ Below w.heap.size w wr) (fun s _ => ts.length - (intOf s).toNat)
  case atStart => exact ⟨0, Nat.zero_le _, rfl, AllU.zero _ _, Below.refl _ _⟩
  case round =>
    obtain ⟨i, hi, rfl, hp, hbel⟩ := hrel
    by_cases hlt : i < ts.length
    · obtain ⟨b, t, g, A1, c1, A2, c2, rfl, ht, k0, k1, k2, ra, rb⟩ := (hr.below hbel).at_ hlt
      obtain ⟨sa, sb⟩ := hs.at_ ht
      have hc := uniIs_any g 0 A1 A2 c1 c2 t.a t.b r wr hr0 hr1 sa sb ra rb k1 k2
      have HC := Lib.hid hc; clear hc k1 k2
      have Ht := Lib.hid ht; clear ht
      cases h : (memB t.a r || memB t.b r)
      · have hp' := hp.succ Ht.out (by rw [isB, h]; rfl)
        rw [h] at HC
        go_wp2_with (go_at_call 34; go_must (refine HC.out.mono ?_; rintro e w1 ⟨rfl, hb1⟩))
        go_roundw
        case rel => exact ⟨i + 1, by omega, by go_num, hp', hbel.trans (hb1.mono hbel.size)⟩
        case measure => simp [intOf]; omega
      · have hF := any_yes (p := (isB · r)) Ht.out (by rw [isB, h])
        have HF := Lib.hid hF; clear hF
        rw [h] at HC
        go_wp2_with (go_at_call 34; go_must (refine HC.out.mono ?_; rintro e w1 ⟨rfl, hb1⟩))
        go_ret
        exact ⟨ret_bool (by rw [← HA.out, HF.out]), hbel.trans (hb1.mono hbel.size)⟩
    · have hF := any_end (p := (isB · r)) hp hi hlt
      have HF := Lib.hid hF; clear hF
      go_wp2
      go_ret
      exact ⟨ret_bool (by rw [← HA.out, HF.out]), hbel⟩

set_option maxHeartbeats 1000000 in
theorem implOneOf_any (A : Option Addr) (c : Nat) (ts : List Tab) (r : Int) (w : World) (hr0 : -2147483648 ≤ r) (hr1 : r ≤ 2147483647) (hl : ts.length * 8 ≤ 140737488351232) (hs : SrtT ts) (hr : RdT w w.heap.size A ts) :
    Calls Try.prog 18 #[.slice A ts.length c, .int .i32 r] w fun e w' => e = .returned (.bool (ts.any (isB · r))) ∧ Below w.heap.size w w' := by
  have HT := Lib.hid (tables_any A c ts w hl hs hr)
  go_enter Try.func18, Try.ntmps18
  go_wp2_with fail
  go_at_call 31
  refine HT.out.mono ?_
  rintro e w1 ⟨A', c', rfl, hP, hb1⟩
  have HU := Lib.hid (uniOneOf_any A' c' ts r w1 hr0 hr1 (by omega) hs hP)
  clear hP
  go_wp2_with (go_at_call 33; go_must (refine HU.out.mono ?_; rintro e w2 ⟨rfl, hb2⟩))
  go_ret
  exact ⟨rfl, hb1.trans (hb2.mono hb1.size)⟩
end Go.Proofs.Ytllnkjkoihmifaa
