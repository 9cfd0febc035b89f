/- The same for the older entry point. -/
import Derived.Test.YtllnkjkoihmifaaLawT
import Derived.Test.YtllnkjkoihmifaaOneOf
namespace Go.Proofs.Ytllnkjkoihmifaa
open Go.RowKit
set_option linter.unusedVariables false

set_option maxHeartbeats 1000000 in
theorem drawOneOf_ts (A : Option Addr) (n c : Nat) (w : World) (hn : n ≤ 1048576) (hA : RdB w w.heap.size A n) :
    Calls Try.prog 17 #[.slice A n c] w fun e w' => ∃ (A' : Option Addr) (c' : Nat) (ts : List Tab) (r : Int), e = .returned (.tuple #[.slice A' ts.length c', .int .i32 r]) ∧ ts.length ≤ 5 ∧ RdT w' w'.heap.size A' ts ∧
      (∀ t ∈ ts, t.a.length ≤ 40 ∧ t.b.length ≤ 40) ∧ -2147483648 ≤ r ∧ r ≤ 2147483647 ∧ Below w.heap.size w w' := by
  have HD := Lib.hid (drawIn_ts A n c w hn hA)
  go_enter Try.func17, Try.ntmps17
  go_wp2_with fail
  go_at_call 13
  refine HD.out.mono ?_
  rintro e W ⟨A', c', ts, r, rfl, htl, hT, hsm, hr0, hr1, hb1⟩
  clear HD
  go_wp2
  exact bodyPost_ret (v := .tuple #[.slice A' ts.length c', .int .i32 r]) (by simp [results, Try.results17, go_sem]) rfl ⟨A', c', ts, r, rfl, htl, hT, hsm, hr0, hr1, hb1⟩

theorem letterOneOf_any (Al : Option Addr) (cl : Nat) (w : World) (hR : Rd w w.heap.size .u16 65536 Al [⟨65, 65, 1⟩]) :
    Calls Try.prog 18 #[.slice (some ⟨w.heap.size, 0, none⟩) 1 1, .int .i32 65] (w.alloc (.cells #[.slice Al 1 cl, .slice none 0 0, .int .i64 1] 35)) fun e w' => e = .returned (.bool true) ∧ Below w.heap.size w w' := by
  have hal := (Below.refl w.heap.size w).alloc (Nat.le_refl _) (.cells #[.slice Al 1 cl, .slice none 0 0, .int .i64 1] 35)
  have h := implOneOf_any (some ⟨w.heap.size, 0, none⟩) 1 [⟨[⟨65, 65, 1⟩], [], 1⟩] 65 _ (by omega) (by omega) (by simp) letter_srt (letter_list (cl := cl) (hR.to hal) (Bk.new _ _ _))
  have e : ([⟨[⟨65, 65, 1⟩], [], 1⟩] : List Tab).any (isB · 65) = true := by decide
  rw [e] at h
  exact h.mono fun e w' ⟨he, hb⟩ => ⟨he, hal.trans (hb.mono (by simp))⟩
end Go.Proofs.Ytllnkjkoihmifaa
