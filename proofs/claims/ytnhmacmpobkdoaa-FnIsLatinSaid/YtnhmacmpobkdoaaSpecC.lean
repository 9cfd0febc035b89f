/- The laws' good: what it returns, for every table that lies in memory. -/
import Derived.Test.YtnhmacmpobkdoaaSpecB
namespace Go.Proofs.Ytnhmacmpobkdoaa
open Go.RowKit
set_option linter.unusedVariables false

set_option maxHeartbeats 1000000 in
theorem good_any (A16 A32 : Option Addr) (c16 c32 : Nat) (a b : List Rg) (n : Int) (w : World) (la : a.length ≤ 9223372036854775807) (lb : b.length ≤ 9223372036854775807)
    (ra : Rd w w.heap.size .u16 65536 A16 a) (rb : Rd w w.heap.size .u32 4294967296 A32 b) :
    Calls Try.prog 18 #[.agg #[.slice A16 a.length c16, .slice A32 b.length c32, .int .i64 n]] w fun e w' =>
      e = .returned (.bool (goodB ⟨a, b, n⟩)) ∧ Below w.heap.size w w' := by
  generalize hANS : goodB ⟨a, b, n⟩ = ANS
  have HA := Lib.hid hANS; clear hANS
  have hbel0 := (Below.refl w.heap.size w).alloc (Nat.le_refl _) (.cells #[.slice A16 a.length c16, .slice A32 b.length c32, .int .i64 n] 27)
  have ra1 := ra.to hbel0
  have rb1 := rb.to hbel0
  have hv := valid_any A16 A32 c16 c32 a b n _ la lb ra1 rb1
  have HV := Lib.hid hv; clear hv
  cases h1 : validB ⟨a, b, n⟩
  · go_enter Try.func18, Try.ntmps18
    go_wp2_with (go_at_call 22; go_must (refine HV.out.mono ?_; rintro e w1 ⟨rfl, hb1⟩))
    go_ret
    exact ⟨ret_bool (by rw [← HA.out]; simp [goodB, h1]), hbel0.trans (hb1.mono (by simp))⟩
  · obtain ⟨v1, v2, -⟩ := validB_true h1
    go_enter Try.func18, Try.ntmps18
    go_wp2_with fail
    go_at_call 22
    refine HV.out.mono ?_
    rintro e w1 ⟨rfl, hb1⟩
    have ra2 := ra1.to hb1
    have rb2 := rb1.to hb1
    have hbx := (Bk.new w 27 #[.slice A16 a.length c16, .slice A32 b.length c32, .int .i64 n]).below hb1 (by simp)
    have k0 : w1.cell? ⟨w.heap.size, 0, none⟩ = some (.slice A16 a.length c16) := by rw [hbx.cell]; rfl
    have k1 : w1.cell? ⟨w.heap.size, 1, none⟩ = some (.slice A32 b.length c32) := by rw [hbx.cell]; rfl
    have k2 : w1.cell? ⟨w.heap.size, 2, none⟩ = some (.int .i64 n) := by rw [hbx.cell]; rfl
    have HTI := Lib.hid (tidy_any A16 A32 c16 c32 a b n _ la lb ra2 rb2 v1.pos v2.pos)
    have hb2 := hbel0.trans (hb1.mono (by simp))

    go_wp2_with (go_at_call 42; go_must (refine HTI.out.mono ?_; rintro e w2 ⟨rfl, hb3⟩))
    go_ret
    exact ⟨ret_bool (by rw [← HA.out]; simp [goodB, h1]), hb2.trans (hb3.mono hb2.size)⟩
end Go.Proofs.Ytnhmacmpobkdoaa
