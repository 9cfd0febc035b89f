/- The reference's Count: some number; nothing is changed. -/
import Derived.Test.YtnhmacmpobkdoaaMkB
import Derived.Test.YtnhmacmpobkdoaaSpec
namespace Go.Proofs.Ytnhmacmpobkdoaa
open Go.RowKit
set_option linter.unusedVariables false
attribute [local go_sem ↓] Go.wp_at_zero Go.wp_at_succ

/-- What Count leaves: some number. -/
def Counted (w : World) (e : Ending) (w' : World) : Prop := ∃ z : Int, e = .returned (.int .i64 z) ∧ 0 ≤ z ∧ z ≤ 400000000000 ∧ Below w.heap.size w w'

set_option maxHeartbeats 4000000 in
set_option maxRecDepth 100000 in
theorem count_any (A16 A32 : Option Addr) (c16 c32 : Nat) (a b : List Rg) (n : Int) (w : World) (la : a.length ≤ 40) (lb : b.length ≤ 40)
    (ra : Rd w w.heap.size .u16 65536 A16 a) (rb : Rd w w.heap.size .u32 4294967296 A32 b) (sa : Stp a) (sb : Stp b) :
    Calls Try.prog 30 #[.agg #[.slice A16 a.length c16, .slice A32 b.length c32, .int .i64 n]] w (Counted w) := by
  have hT0 := Bk.new w 27 #[.slice A16 a.length c16, .slice A32 b.length c32, .int .i64 n]
  have hb0 := (Below.refl w.heap.size w).alloc (Nat.le_refl _) (.cells #[.slice A16 a.length c16, .slice A32 b.length c32, .int .i64 n] 27)
  go_enter Try.func30, Try.ntmps30
  go_wp2
  go_loopw [3, 4] (fun s3 s wr => ∃ (i : Nat) (z : Int), i ≤ a.length ∧ s = .int .i64 (i : Int) ∧ s3 = .int .i64 z ∧ 0 ≤ z ∧ z ≤ 0 + (i : Int) * 5000000000 ∧ Bk wr w.heap.size 27 #[.slice A16 a.length c16, .slice A32 b.length c32, .int .i64 n] ∧ Below w.heap.size w wr) (fun _ s _ => a.length - (intOf s).toNat)
  case atStart => exact ⟨0, 0, Nat.zero_le _, rfl, rfl, by omega, by omega, hT0, hb0⟩
  case round =>
    obtain ⟨i, z, hi, rfl, rfl, hz0, hz1, hT, hB⟩ := hrel
    have t0 : wr.cell? ⟨w.heap.size, 0, none⟩ = some (.slice A16 a.length c16) := hT.cell 0
    have hszT := hT.lt
    have hszW := hB.size
    by_cases hlt : i < a.length
    · obtain ⟨b1, o1, x, rfl, hb1, hx, c0, c1, c2, d1, d2, d3, d4, d5, d6⟩ := (ra.below hB).at_ hlt
      obtain ⟨f1, f2⟩ := sa x (hx ▸ getD_mem hlt)
      clear hx
      have g1 : 0 ≤ (x.hi - x.lo) / x.st := Int.ediv_nonneg (by omega) (by omega)
      have g2 : (x.hi - x.lo) / x.st ≤ x.hi - x.lo := Int.ediv_le_self _ (by omega)
      have HT1 := Lib.hid (hT.alloc (.cells #[.int .u16 x.lo, .int .u16 x.hi, .int .u16 x.st] 39)); have HB1 := Lib.hid (hB.alloc hB.size (.cells #[.int .u16 x.lo, .int .u16 x.hi, .int .u16 x.st] 39)); clear hT hB
      have k4 : (x.st == 0) = false := by simp; omega
      go_wp2
      go_roundw
      case rel => exact ⟨i + 1, z + (x.hi - x.lo) / x.st + 1, by omega, by go_num, by go_num, by omega, by omega, HT1.out, HB1.out⟩
      case measure => simp [intOf]; omega
    · have hlz : ¬ ((i : Int) < (a.length : Int)) := by omega
      have hz2 : z ≤ 200000000000 := by omega
      have HT0 := Lib.hid hT; have HB0 := Lib.hid hB; clear hT hB hz1
      go_wp2
      clear hszT hszW hlz t0 hlt hi
      go_loopw [3, 6] (fun s3 s wr => ∃ (i : Nat) (z : Int), i ≤ b.length ∧ s = .int .i64 (i : Int) ∧ s3 = .int .i64 z ∧ 0 ≤ z ∧ z ≤ 200000000000 + (i : Int) * 5000000000 ∧ Bk wr w.heap.size 27 #[.slice A16 a.length c16, .slice A32 b.length c32, .int .i64 n] ∧ Below w.heap.size w wr) (fun _ s _ => b.length - (intOf s).toNat)
      case atStart => exact ⟨0, z, Nat.zero_le _, rfl, rfl, by omega, by omega, HT0.out, HB0.out⟩
      case round =>
        obtain ⟨i, z, hi, rfl, rfl, hz0, hz1, hT, hB⟩ := hrel
        have t0 : wr.cell? ⟨w.heap.size, 1, none⟩ = some (.slice A32 b.length c32) := hT.cell 1
        have hszT := hT.lt
        have hszW := hB.size
        by_cases hlt : i < b.length
        · obtain ⟨b1, o1, x, rfl, hb1, hx, c0, c1, c2, d1, d2, d3, d4, d5, d6⟩ := (rb.below hB).at_ hlt
          obtain ⟨f1, f2⟩ := sb x (hx ▸ getD_mem hlt)
          clear hx
          have g1 : 0 ≤ (x.hi - x.lo) / x.st := Int.ediv_nonneg (by omega) (by omega)
          have g2 : (x.hi - x.lo) / x.st ≤ x.hi - x.lo := Int.ediv_le_self _ (by omega)
          have HT1 := Lib.hid (hT.alloc (.cells #[.int .u32 x.lo, .int .u32 x.hi, .int .u32 x.st] 65)); have HB1 := Lib.hid (hB.alloc hB.size (.cells #[.int .u32 x.lo, .int .u32 x.hi, .int .u32 x.st] 65)); clear hT hB
          have k4 : (x.st == 0) = false := by simp; omega
          go_wp2
          go_roundw
          case rel => exact ⟨i + 1, z + (x.hi - x.lo) / x.st + 1, by omega, by go_num, by go_num, by omega, by omega, HT1.out, HB1.out⟩
          case measure => simp [intOf]; omega
        · have hlz : ¬ ((i : Int) < (b.length : Int)) := by omega
          have HB := Lib.hid hB; clear hT hB
          go_wp2
          go_ret
          exact ⟨z, rfl, by omega, by omega, HB.out⟩
end Go.Proofs.Ytnhmacmpobkdoaa
