/- The reference's Is over one table: what it returns, for every table that lies in memory. -/
import Derived.Test.YtllnkjkoihmifaaSpecB
namespace Go.Proofs.Ytllnkjkoihmifaa
open Go.RowKit
set_option linter.unusedVariables false

set_option maxHeartbeats 2000000 in
set_option maxRecDepth 100000 in
theorem specIs_any (A16 A32 : Option Addr) (c16 c32 : Nat) (a b : List Rg) (n r : Int) (w : World) (hr0 : -2147483648 ≤ r) (hr1 : r ≤ 2147483647) (la : a.length ≤ 9223372036854775807) (lb : b.length ≤ 9223372036854775807)
    (ra : Rd w w.heap.size .u16 65536 A16 a) (rb : Rd w w.heap.size .u32 4294967296 A32 b) (pa : Pos a) (pb : Pos b) :
    Calls Try.prog 32 #[.agg #[.slice A16 a.length c16, .slice A32 b.length c32, .int .i64 n], .int .i32 r] w fun e w' =>
      e = .returned (.bool (isB ⟨a, b, n⟩ r)) ∧ Below w.heap.size w w' := by
  generalize hANS : isB ⟨a, b, n⟩ r = ANS
  have HA := Lib.hid hANS; clear hANS
  go_enter Try.func32, Try.ntmps32
  go_wp2
  go_loopw [5] (fun s wr => ∃ (i : Nat), i ≤ a.length ∧ s = .int .i64 i ∧ NonU a r i ∧ Bk wr w.heap.size 35 #[.slice A16 a.length c16, .slice A32 b.length c32, .int .i64 n] ∧ Below w.heap.size w wr) (fun s _ => a.length - (intOf s).toNat)
  case atStart => exact ⟨0, Nat.zero_le _, rfl, NonU.zero _ _, Bk.new _ _ _, (Below.refl _ _).alloc (Nat.le_refl _) _⟩
  case round =>
    obtain ⟨i, hi, rfl, hp, hbox, hbel⟩ := hrel
    have hsz := hbox.lt
    have k0 : wr.cell? ⟨w.heap.size, 0, none⟩ = some (.slice A16 a.length c16) := by rw [hbox.cell]; rfl
    have k1 : wr.cell? ⟨w.heap.size, 1, none⟩ = some (.slice A32 b.length c32) := by rw [hbox.cell]; rfl
    by_cases hlt : i < a.length
    · obtain ⟨b0, off, x, rfl, hb, hx, c0, c1, c2, b1, b2, b3, b4, b5, b6⟩ := (ra.below hbel).at_ hlt
      have Hx := Lib.hid hx; clear hx
      obtain ⟨s1, s2⟩ := pa x (by rw [← Hx.out]; exact getD_mem hlt)
      have s3 : 1 ≤ x.st := by omega
      have hbx := hbox.alloc (.cells #[.int .u16 x.lo, .int .u16 x.hi, .int .u16 x.st] 54)
      have hbl := hbel.alloc hbel.size (.cells #[.int .u16 x.lo, .int .u16 x.hi, .int .u16 x.st] 54)
      cases g : inB x r
      · have hp' := hp.succ Hx.out g
        go_wp2_with (go_at_call 43; go_must (refine (at_any r x.lo x.hi x.st _ hr0 hr1 b1 (by omega) b3 (by omega) s3 (by omega)).mono ?_; rintro e w' ⟨rfl, rfl⟩))
        go_roundw
        case rel => exact ⟨i + 1, by omega, by go_num, hp', hbx, hbl⟩
        case measure => simp [intOf]; omega
      · have hF := memB_at hlt Hx.out g
        have HF := Lib.hid hF; clear hF
        go_wp2_with (go_at_call 43; go_must (refine (at_any r x.lo x.hi x.st _ hr0 hr1 b1 (by omega) b3 (by omega) s3 (by omega)).mono ?_; rintro e w' ⟨rfl, rfl⟩))
        go_ret
        exact ⟨ret_bool (by rw [← HA.out]; simp [isB, HF.out]), hbl⟩
    · have hT := hp.end_ hi hlt
      have HT := Lib.hid hT; clear hT
      have HB := Lib.hid hbox; clear hbox
      go_wp2
      go_loopw [7] (fun s wr => ∃ (i : Nat), i ≤ b.length ∧ s = .int .i64 i ∧ NonU b r i ∧ Bk wr w.heap.size 35 #[.slice A16 a.length c16, .slice A32 b.length c32, .int .i64 n] ∧ Below w.heap.size w wr) (fun s _ => b.length - (intOf s).toNat)
      case atStart => exact ⟨0, Nat.zero_le _, rfl, NonU.zero _ _, HB.out, hbel⟩
      case round =>
        clear hbel k0 k1 hsz
        obtain ⟨j, hj, rfl, hp, hbox, hbel⟩ := hrel
        have hsz := hbox.lt
        have k1 : wr.cell? ⟨w.heap.size, 1, none⟩ = some (.slice A32 b.length c32) := by rw [hbox.cell]; rfl
        by_cases hlt : j < b.length
        · obtain ⟨b0, off, x, rfl, hb, hx, c0, c1, c2, b1, b2, b3, b4, b5, b6⟩ := (rb.below hbel).at_ hlt
          have Hx := Lib.hid hx; clear hx
          obtain ⟨s1, s2⟩ := pb x (by rw [← Hx.out]; exact getD_mem hlt)
          have s3 : 1 ≤ x.st := by omega
          have hbx := hbox.alloc (.cells #[.int .u32 x.lo, .int .u32 x.hi, .int .u32 x.st] 60)
          have hbl := hbel.alloc hbel.size (.cells #[.int .u32 x.lo, .int .u32 x.hi, .int .u32 x.st] 60)
          cases g : inB x r
          · have hp' := hp.succ Hx.out g
            go_wp2_with (go_at_call 43; go_must (refine (at_any r x.lo x.hi x.st _ hr0 hr1 b1 (by omega) b3 (by omega) s3 (by omega)).mono ?_; rintro e w' ⟨rfl, rfl⟩))
            go_roundw
            case rel => exact ⟨j + 1, by omega, by go_num, hp', hbx, hbl⟩
            case measure => simp [intOf]; omega
          · have hF := memB_at hlt Hx.out g
            have HF := Lib.hid hF; clear hF
            go_wp2_with (go_at_call 43; go_must (refine (at_any r x.lo x.hi x.st _ hr0 hr1 b1 (by omega) b3 (by omega) s3 (by omega)).mono ?_; rintro e w' ⟨rfl, rfl⟩))
            go_ret
            exact ⟨ret_bool (by rw [← HA.out]; simp [isB, HF.out]), hbl⟩
        · have hT2 := hp.end_ hj hlt
          have HT2 := Lib.hid hT2; clear hT2
          go_wp2
          go_ret
          exact ⟨ret_bool (by rw [← HA.out]; simp [isB, HT.out, HT2.out]), hbel⟩

end Go.Proofs.Ytllnkjkoihmifaa
