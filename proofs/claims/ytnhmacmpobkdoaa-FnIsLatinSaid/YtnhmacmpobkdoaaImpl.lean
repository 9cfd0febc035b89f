/- The thin package's Is: it reports whether the number is in one of the ranges. Conditions: both lists are sorted, within their bounds, and lie in memory. -/
import Derived.Test.YtnhmacmpobkdoaaTab
import Derived.Test.YtnhmacmpobkdoaaUni
import Derived.Test.YtnhmacmpobkdoaaPlainB
namespace Go.Proofs.Ytnhmacmpobkdoaa
open Go.RowKit
set_option linter.unusedVariables false

set_option maxHeartbeats 1000000 in
theorem implIs_any (A16 A32 : Option Addr) (c16 c32 : Nat) (a b : List Rg) (n r : Int) (w : World) (hr0 : -2147483648 ≤ r) (hr1 : r ≤ 2147483647)
    (sa : Srt 0 65535 a) (sb : Srt 65536 1114111 b) (ra : Rd w w.heap.size .u16 65536 A16 a) (rb : Rd w w.heap.size .u32 4294967296 A32 b) :
    Calls Try.prog 20 #[.agg #[.slice A16 a.length c16, .slice A32 b.length c32, .int .i64 n], .int .i32 r] w fun e w' =>
      e = .returned (.bool (isB ⟨a, b, n⟩ r)) ∧ Below w.heap.size w w' := by
  have hbel0 := (Below.refl w.heap.size w).alloc (Nat.le_refl _) (.cells #[.slice A16 a.length c16, .slice A32 b.length c32, .int .i64 n] 27)
  have la := sa.len16
  have lb := sb.len32
  have ht := table_any A16 A32 c16 c32 a b n _ (by omega) (by omega) (ra.to hbel0) (rb.to hbel0)
  have HT := Lib.hid ht; clear ht
  go_enter Try.func20, Try.ntmps20
  go_wp2_with fail
  go_at_call 44
  refine HT.out.mono ?_
  rintro e w1 ⟨g, A, c, A', c', rfl, hP, hb1⟩
  have hb2 := hbel0.trans (hb1.mono (by simp))
  have HU := Lib.hid (uniIs_any g 0 A A' c c' a b r w1 hr0 hr1 sa sb hP.rd16 hP.rd32 hP.c0 hP.c1)
  clear hP
  go_wp2_with (go_at_call 43; go_must (refine HU.out.mono ?_; rintro e w2 ⟨rfl, hb3⟩))
  go_ret
  exact ⟨rfl, hb2.trans (hb3.mono hb2.size)⟩
end Go.Proofs.Ytnhmacmpobkdoaa
