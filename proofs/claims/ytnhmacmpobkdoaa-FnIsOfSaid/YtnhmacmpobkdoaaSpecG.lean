/- The reference over lists of tables, and what the laws ask of all tables: AllValid, AllTidy, allGood. -/
import Derived.Test.YtnhmacmpobkdoaaSpecC
import Derived.Test.YtnhmacmpobkdoaaTabsA
namespace Go.Proofs.Ytnhmacmpobkdoaa
open Go.RowKit
set_option linter.unusedVariables false

/-- No stride is 0, and no range ends ahead of its first number. -/
def PosT (ts : List Tab) : Prop := ∀ t ∈ ts, Pos t.a ∧ Pos t.b
theorem PosT.at_ {ts : List Tab} (h : PosT ts) {i : Nat} {t : Tab} (ht : ts[i]? = some t) : Pos t.a ∧ Pos t.b := h t (List.mem_of_getElem? ht)

set_option maxHeartbeats 1000000 in
set_option maxRecDepth 100000 in
theorem allValid_any (A : Option Addr) (c : Nat) (ts : List Tab) (w : World) (hl : ts.length ≤ 9223372036854775807) (hr : RdT w w.heap.size A ts) :
    Calls Try.prog 48 #[.slice A ts.length c] w fun e w' => e = .returned (.bool (ts.all validB)) ∧ Below w.heap.size w w' := by
  generalize hANS : ts.all validB = ANS
  have HA := Lib.hid hANS; clear hANS
  go_enter Try.func48, Try.ntmps48
  go_wp2
  go_loopw [3] (fun s wr => ∃ (i : Nat), i ≤ ts.length ∧ s = .int .i64 i ∧ AllU validB ts i ∧ Below w.heap.size w wr) (fun s _ => ts.length - (intOf s).toNat)
  case atStart => exact ⟨0, Nat.zero_le _, rfl, AllU.zero _ _, Below.refl _ _⟩
  case round =>
    obtain ⟨i, hi, rfl, hp, hbel⟩ := hrel
    by_cases hlt : i < ts.length
    · obtain ⟨b, off, t, A16, c16, A32, c32, rfl, hb, ht, k0, k1, k2, ra, rb, l1, l2⟩ := (hr.below hbel).at_ hlt
      have hc := valid_any A16 A32 c16 c32 t.a t.b t.n wr l1 l2 (ra.more hbel.size) (rb.more hbel.size)
      have HC := Lib.hid hc; clear hc
      have Ht := Lib.hid ht; clear ht
      cases g : validB t
      · have hF := all_no Ht.out g
        have HF := Lib.hid hF; clear hF
        go_wp2_with (go_at_call 22; go_must (refine HC.out.mono ?_; rintro e w1 ⟨rfl, hb1⟩))
        go_ret
        exact ⟨ret_bool (by rw [← HA.out, HF.out]), hbel.trans (hb1.mono hbel.size)⟩
      · have hp' := hp.succ Ht.out g
        go_wp2_with (go_at_call 22; go_must (refine HC.out.mono ?_; rintro e w1 ⟨rfl, hb1⟩))
        go_roundw
        case rel => exact ⟨i + 1, by omega, by go_num, hp', hbel.trans (hb1.mono hbel.size)⟩
        case measure => simp [intOf]; omega
    · have hF := hp.end_ hi hlt
      have HF := Lib.hid hF; clear hF
      go_wp2
      go_ret
      exact ⟨ret_bool (by rw [← HA.out, HF.out]), hbel⟩

set_option maxHeartbeats 1000000 in
set_option maxRecDepth 100000 in
theorem allTidy_any (A : Option Addr) (c : Nat) (ts : List Tab) (w : World) (hl : ts.length ≤ 9223372036854775807) (hq : PosT ts) (hr : RdT w w.heap.size A ts) :
    Calls Try.prog 49 #[.slice A ts.length c] w fun e w' => e = .returned (.bool (ts.all tidyB)) ∧ Below w.heap.size w w' := by
  generalize hANS : ts.all tidyB = ANS
  have HA := Lib.hid hANS; clear hANS
  go_enter Try.func49, Try.ntmps49
  go_wp2
  go_loopw [3] (fun s wr => ∃ (i : Nat), i ≤ ts.length ∧ s = .int .i64 i ∧ AllU tidyB ts i ∧ Below w.heap.size w wr) (fun s _ => ts.length - (intOf s).toNat)
  case atStart => exact ⟨0, Nat.zero_le _, rfl, AllU.zero _ _, Below.refl _ _⟩
  case round =>
    obtain ⟨i, hi, rfl, hp, hbel⟩ := hrel
    by_cases hlt : i < ts.length
    · obtain ⟨b, off, t, A16, c16, A32, c32, rfl, hb, ht, k0, k1, k2, ra, rb, l1, l2⟩ := (hr.below hbel).at_ hlt
      obtain ⟨p1, p2⟩ := hq.at_ ht
      have hc := tidy_any A16 A32 c16 c32 t.a t.b t.n wr l1 l2 (ra.more hbel.size) (rb.more hbel.size) p1 p2
      have HC := Lib.hid hc; clear hc
      have Ht := Lib.hid ht; clear ht
      cases g : tidyB t
      · have hF := all_no Ht.out g
        have HF := Lib.hid hF; clear hF
        go_wp2_with (go_at_call 42; go_must (refine HC.out.mono ?_; rintro e w1 ⟨rfl, hb1⟩))
        go_ret
        exact ⟨ret_bool (by rw [← HA.out, HF.out]), hbel.trans (hb1.mono hbel.size)⟩
      · have hp' := hp.succ Ht.out g
        go_wp2_with (go_at_call 42; go_must (refine HC.out.mono ?_; rintro e w1 ⟨rfl, hb1⟩))
        go_roundw
        case rel => exact ⟨i + 1, by omega, by go_num, hp', hbel.trans (hb1.mono hbel.size)⟩
        case measure => simp [intOf]; omega
    · have hF := hp.end_ hi hlt
      have HF := Lib.hid hF; clear hF
      go_wp2
      go_ret
      exact ⟨ret_bool (by rw [← HA.out, HF.out]), hbel⟩

/-- All tables have the form that the documentation asks for, and are tidy. -/
def allGoodB (ts : List Tab) : Bool := ts.all validB && ts.all tidyB
theorem posT_of {ts : List Tab} (h : ts.all validB = true) : PosT ts := fun t ht => by
  rw [List.all_eq_true] at h
  obtain ⟨v1, v2, -⟩ := validB_true (h t ht)
  exact ⟨v1.pos, v2.pos⟩

set_option maxHeartbeats 1000000 in
theorem allGood_any (A : Option Addr) (c : Nat) (ts : List Tab) (w : World) (hl : ts.length ≤ 9223372036854775807) (hr : RdT w w.heap.size A ts) :
    Calls Try.prog 35 #[.slice A ts.length c] w fun e w' => e = .returned (.bool (allGoodB ts)) ∧ Below w.heap.size w w' := by
  generalize hANS : allGoodB ts = ANS
  have HA := Lib.hid hANS; clear hANS
  have HV := Lib.hid (allValid_any A c ts w hl hr)
  cases h1 : ts.all validB
  · go_enter Try.func35, Try.ntmps35
    rw [h1] at HV
    go_wp2_with (go_at_call 48; go_must (refine HV.out.mono ?_; rintro e w1 ⟨rfl, hb1⟩))
    go_ret
    exact ⟨ret_bool (by rw [← HA.out]; simp only [allGoodB, h1, Bool.false_and]), hb1⟩
  · have hq := posT_of h1
    rw [h1] at HV
    have H1 := Lib.hid h1; clear h1
    go_enter Try.func35, Try.ntmps35
    go_wp2_with fail
    go_at_call 48
    refine HV.out.mono ?_
    rintro e w1 ⟨rfl, hb1⟩
    have HT := Lib.hid (allTidy_any A c ts w1 hl hq (hr.to hb1))
    go_wp2_with (go_at_call 49; go_must (refine HT.out.mono ?_; rintro e w2 ⟨rfl, hb2⟩))
    go_ret
    exact ⟨ret_bool (by rw [← HA.out]; simp only [allGoodB, H1.out, Bool.true_and]), hb1.trans (hb2.mono hb1.size)⟩
end Go.Proofs.Ytnhmacmpobkdoaa
