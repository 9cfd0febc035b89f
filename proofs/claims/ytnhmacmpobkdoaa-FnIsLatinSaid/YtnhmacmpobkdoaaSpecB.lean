/- The reference's Valid, Tidy and Is over one table: what each returns, for every table that lies in memory. -/
import Derived.Test.YtnhmacmpobkdoaaSpec
import Derived.Test.YtnhmacmpobkdoaaBlk
namespace Go.Proofs.Ytnhmacmpobkdoaa
open Go.RowKit
set_option linter.unusedVariables false

set_option maxHeartbeats 2000000 in
set_option maxRecDepth 100000 in
theorem valid_any (A16 A32 : Option Addr) (c16 c32 : Nat) (a b : List Rg) (n : Int) (w : World) (la : a.length ≤ 9223372036854775807) (lb : b.length ≤ 9223372036854775807)
    (ra : Rd w w.heap.size .u16 65536 A16 a) (rb : Rd w w.heap.size .u32 4294967296 A32 b) :
    Calls Try.prog 22 #[.agg #[.slice A16 a.length c16, .slice A32 b.length c32, .int .i64 n]] w fun e w' =>
      e = .returned (.bool (validB ⟨a, b, n⟩)) ∧ Below w.heap.size w w' := by
  generalize hANS : validB ⟨a, b, n⟩ = ANS
  have HA := Lib.hid hANS; clear hANS
  have ra1 : ∀ o q, Rd ((w.alloc o).drewN q) w.heap.size .u16 65536 A16 a := fun o q => (ra.alloc (Nat.le_refl _) o).drewN q
  have rb1 : ∀ o q, Rd ((w.alloc o).drewN q) w.heap.size .u32 4294967296 A32 b := fun o q => (rb.alloc (Nat.le_refl _) o).drewN q
  have hbel : ∀ o q, Below w.heap.size w ((w.alloc o).drewN q) := fun o q => below_drewN ((Below.refl _ _).alloc (Nat.le_refl _) o) q
  have RA := Lib.hid ra1; have RB := Lib.hid rb1; have HB := Lib.hid hbel
  clear ra1 rb1 hbel ra rb
  cases h1 : v16B a
  · go_enter Try.func22, Try.ntmps22
    go_wp2
    go_quiet (first
      | (go_at_call 45; exact Calls.quiet_of (valid16_any _ _ _ _ _ la (RA.out _ _))))
    go_wp2
    go_ret
    exact ⟨ret_bool (by rw [← HA.out]; simp [validB, h1]), HB.out _ _⟩
  · cases h2 : v32B b
    · go_enter Try.func22, Try.ntmps22
      go_wp2
      go_quiet (first
        | (go_at_call 45; exact Calls.quiet_of (valid16_any _ _ _ _ _ la (RA.out _ _)))
        | (go_at_call 46; exact Calls.quiet_of (valid32_any _ _ _ _ _ lb (RB.out _ _))))
      go_wp2
      go_ret
      exact ⟨ret_bool (by rw [← HA.out]; simp [validB, h2]), HB.out _ _⟩
    · go_enter Try.func22, Try.ntmps22
      go_wp2
      go_quiet (first
        | (go_at_call 45; exact Calls.quiet_of (valid16_any _ _ _ _ _ la (RA.out _ _)))
        | (go_at_call 46; exact Calls.quiet_of (valid32_any _ _ _ _ _ lb (RB.out _ _)))
        | (go_at_call 25; exact Calls.quiet_of_same ((latin_any _ _ _ _ _ la (RA.out _ _)).mono fun _ _ h => ⟨h.1, h.2.symm⟩)))
      go_wp2
      go_ret
      exact ⟨ret_bool (by rw [← HA.out]; simp [validB, h1, h2]), HB.out _ _⟩

set_option maxHeartbeats 2000000 in
set_option maxRecDepth 100000 in
theorem tidy_any (A16 A32 : Option Addr) (c16 c32 : Nat) (a b : List Rg) (n : Int) (w : World) (la : a.length ≤ 9223372036854775807) (lb : b.length ≤ 9223372036854775807)
    (ra : Rd w w.heap.size .u16 65536 A16 a) (rb : Rd w w.heap.size .u32 4294967296 A32 b) (pa : Pos a) (pb : Pos b) :
    Calls Try.prog 42 #[.agg #[.slice A16 a.length c16, .slice A32 b.length c32, .int .i64 n]] w fun e w' =>
      e = .returned (.bool (tidyB ⟨a, b, n⟩)) ∧ Below w.heap.size w w' := by
  generalize hANS : tidyB ⟨a, b, n⟩ = ANS
  have HA := Lib.hid hANS; clear hANS
  have hbel : ∀ o q, Below w.heap.size w ((w.alloc o).drewN q) := fun o q => below_drewN ((Below.refl _ _).alloc (Nat.le_refl _) o) q
  have HB := Lib.hid hbel; clear hbel
  have ra1 := ra.alloc (Nat.le_refl _) (.cells #[.slice A16 a.length c16, .slice A32 b.length c32, .int .i64 n] 27)
  have rb1 := rb.alloc (Nat.le_refl _) (.cells #[.slice A16 a.length c16, .slice A32 b.length c32, .int .i64 n] 27)
  clear ra rb
  have hnb := Bk.new w 27 #[.slice A16 a.length c16, .slice A32 b.length c32, .int .i64 n]
  generalize hW : w.alloc (.cells #[.slice A16 a.length c16, .slice A32 b.length c32, .int .i64 n] 27) = W at *
  have HW := Lib.hid hW; clear hW
  have k0 : W.cell? ⟨w.heap.size, 0, none⟩ = some (.slice A16 a.length c16) := by rw [hnb.cell]; rfl
  have k1 : W.cell? ⟨w.heap.size, 1, none⟩ = some (.slice A32 b.length c32) := by rw [hnb.cell]; rfl
  clear hnb
  go_enter Try.func42, Try.ntmps42
  go_wp2
  rw [HW.out]
  go_loopw [3] (fun s wr => ∃ (i q : Nat), i ≤ a.length ∧ s = .int .i64 i ∧ wr = W.drewN q ∧ TidU a i) (fun s _ => a.length - (intOf s).toNat)
  case atStart => exact ⟨0, 0, Nat.zero_le _, rfl, rfl, TidU.zero _⟩
  case round =>
    obtain ⟨i, q, hi, rfl, rfl, hp⟩ := hrel
    by_cases hlt : i < a.length
    · obtain ⟨b0, off, x, rfl, hb, hx, c0, c1, c2, b1, b2, b3, b4, b5, b6⟩ := ra1.at_ hlt
      have Hx := Lib.hid hx; clear hx
      obtain ⟨s1, s2⟩ := pa x (by rw [← Hx.out]; exact getD_mem hlt)
      have s3 : 1 ≤ x.st := by omega
      by_cases g : (x.hi - x.lo) % x.st = 0
      · have hp' := hp.succ Hx.out g
        have hb0 : ((x.hi - x.lo) % x.st != 0) = false := by simp [g]
        have G := Lib.hid g; clear g
        go_wp2
        go_quiet (fail)
        go_wp2
        go_roundw
        case rel => exact ⟨i + 1, _, by omega, by go_num, rfl, hp'⟩
        case measure => simp [intOf]; omega
      · have hF := tidyL_no hlt Hx.out g
        have HF := Lib.hid hF; clear hF
        have hb0 : ((x.hi - x.lo) % x.st != 0) = true := by simp [g]
        go_wp2
        go_quiet (fail)
        go_wp2
        go_ret
        exact ⟨ret_bool (by rw [← HA.out]; simp [tidyB, HF.out]), by rw [← HW.out]; first | exact HB.out _ _ | (rw [World.drewN_drewN]; exact HB.out _ _)⟩
    · have hT := hp.end_ hi hlt
      have HT := Lib.hid hT; clear hT
      go_wp2
      go_loopw [4] (fun s wr => ∃ (i q : Nat), i ≤ b.length ∧ s = .int .i64 i ∧ wr = W.drewN q ∧ TidU b i) (fun s _ => b.length - (intOf s).toNat)
      case atStart => exact ⟨0, _, Nat.zero_le _, rfl, rfl, TidU.zero _⟩
      case round =>
        obtain ⟨j, q, hj, rfl, rfl, hp⟩ := hrel
        by_cases hlt : j < b.length
        · obtain ⟨b0, off, x, rfl, hb, hx, c0, c1, c2, b1, b2, b3, b4, b5, b6⟩ := rb1.at_ hlt
          have Hx := Lib.hid hx; clear hx
          obtain ⟨s1, s2⟩ := pb x (by rw [← Hx.out]; exact getD_mem hlt)
          have s3 : 1 ≤ x.st := by omega
          by_cases g : (x.hi - x.lo) % x.st = 0
          · have hp' := hp.succ Hx.out g
            have hb0 : ((x.hi - x.lo) % x.st != 0) = false := by simp [g]
            have G := Lib.hid g; clear g
            go_wp2
            go_quiet (fail)
            go_wp2
            go_roundw
            case rel => exact ⟨j + 1, _, by omega, by go_num, rfl, hp'⟩
            case measure => simp [intOf]; omega
          · have hF := tidyL_no hlt Hx.out g
            have HF := Lib.hid hF; clear hF
            have hb0 : ((x.hi - x.lo) % x.st != 0) = true := by simp [g]
            go_wp2
            go_quiet (fail)
            go_wp2
            go_ret
            exact ⟨ret_bool (by rw [← HA.out]; simp [tidyB, HF.out]), by rw [← HW.out]; first | exact HB.out _ _ | (rw [World.drewN_drewN]; exact HB.out _ _)⟩
        · have hT2 := hp.end_ hj hlt
          have HT2 := Lib.hid hT2; clear hT2
          go_wp2
          go_ret
          exact ⟨ret_bool (by rw [← HA.out]; simp [tidyB, HT.out, HT2.out]), by rw [← HW.out]; exact HB.out _ _⟩
end Go.Proofs.Ytnhmacmpobkdoaa
