/- The reference's small functions: At, Valid16, Valid32, Latin: what each returns, for all ranges that lie in memory. -/
import Derived.Test.YtnhmacmpobkdoaaMem
import Derived.Test.YtnhmacmpobkdoaaPlainB
import Derived.Test.YtnhmacmpobkdoaaProg
import Derived.Deep.LoopGhost
import Derived.Deep.QuietTactic
import Derived.BigQuiet
import Derived.Deep.DeepMust
import Derived.Outline
namespace Go.Proofs.Ytnhmacmpobkdoaa
open Go.RowKit
set_option linter.unusedVariables false


set_option maxHeartbeats 1000000 in
theorem latin_any (A : Option Addr) (c : Nat) (l : List Rg) (w : World) (B : Nat) (hl : l.length ≤ 9223372036854775807) (hr : Rd w B .u16 65536 A l) :
    Calls Try.prog 25 #[.slice A l.length c] w fun e w' => e = .returned (.int .i64 (latN l)) ∧ w = w' := by
  go_enter Try.func25, Try.ntmps25
  go_wp2
  go_loop [3, 4] (fun s t => ∃ i : Nat, i ≤ l.length ∧ s = .int .i64 (latN (l.take i)) ∧ t = .int .i64 i) (fun _ t => l.length - (intOf t).toNat)
  case atStart => exact ⟨0, Nat.zero_le _, rfl, rfl⟩
  case round =>
    obtain ⟨i, hi, rfl, rfl⟩ := hrel
    have hn := latN_le (l.take i)
    have hn' : ((l.take i).length : Int) ≤ i := by have := List.length_take_le i l; omega
    have hm : latN (l.take i) ≤ i := by omega
    have h0 := latN_nonneg (l.take i)
    clear hn hn'
    by_cases hlt : i < l.length
    · obtain ⟨b, off, x, rfl, hb, hx, c0, c1, c2, b1, b2, b3, b4, b5, b6⟩ := hr.at_ hlt
      have hs := latN_snoc hlt hx
      have HS := Lib.hid hs; clear hs hx
      by_cases h : x.hi ≤ 255
      · go_wp2
        go_round
        case rel => exact ⟨i + 1, by omega, by rw [HS.out, if_pos h], by go_num⟩
        case measure => simp [intOf]; omega
      · go_wp2
        go_round
        case rel => exact ⟨i + 1, by omega, by rw [HS.out, if_neg h, Int.add_zero], by go_num⟩
        case measure => simp [intOf]; omega
    · have : i = l.length := by omega
      subst this
      go_wp2
      go_ret
      exact ⟨ret_int (by first | rfl | rw [List.take_length]), rfl⟩

set_option maxHeartbeats 2000000 in
set_option maxRecDepth 100000 in
theorem valid16_any (A : Option Addr) (c : Nat) (l : List Rg) (w : World) (B : Nat) (hl : l.length ≤ 9223372036854775807) (hr : Rd w B .u16 65536 A l) :
    Calls Try.prog 45 #[.slice A l.length c] w fun e w' => e = .returned (.bool (v16B l)) ∧ ∃ q, w' = w.drewN q := by
  generalize hANS : v16B l = ANS
  have HA := Lib.hid hANS; clear hANS
  go_enter Try.func45, Try.ntmps45
  go_wp2
  go_loopw [3] (fun s wr => ∃ (i q : Nat), i ≤ l.length ∧ s = .int .i64 i ∧ wr = w.drewN q ∧ Upto 0 65535 l i) (fun s _ => l.length - (intOf s).toNat)
  case atStart => exact ⟨0, 0, Nat.zero_le _, rfl, rfl, Upto.zero _ _ _⟩
  case round =>
    obtain ⟨i, q, hi, rfl, rfl, hp⟩ := hrel
    by_cases hlt : i < l.length
    · obtain ⟨b, off, x, rfl, hb, hx, c0, c1, c2, b1, b2, b3, b4, b5, b6⟩ := hr.at_ hlt
      have Hx := Lib.hid hx; clear hx
      by_cases g0 : x.st = 0
      · have hF : v16B l = false := valid16_no hlt (by rw [Hx.out]; intro h; obtain ⟨h1, h2, h3, h4, h5⟩ := h; first | exact absurd g0 h1 | omega)
        have HF := Lib.hid hF; clear hF
        have hb0 : (x.st == 0) = true := by simp; omega
        go_wp2
        go_quiet (fail)
        go_wp2
        go_ret
        exact ⟨ret_bool (by rw [← HA.out, HF.out]), by first | exact ⟨_, rfl⟩ | exact ⟨_, World.drewN_drewN _ _ _⟩⟩
      have hb0 : (x.st == 0) = false := by simp; omega
      by_cases g1 : x.hi < x.lo
      · have hF : v16B l = false := valid16_no hlt (by rw [Hx.out]; intro h; obtain ⟨h1, h2, h3, h4, h5⟩ := h; first | exact absurd g0 h1 | omega)
        have HF := Lib.hid hF; clear hF
        have hb1 : decide (x.hi < x.lo) = true := by simp; omega
        go_wp2
        go_quiet (fail)
        go_wp2
        go_ret
        exact ⟨ret_bool (by rw [← HA.out, HF.out]), by first | exact ⟨_, rfl⟩ | exact ⟨_, World.drewN_drewN _ _ _⟩⟩
      have hb1 : decide (x.hi < x.lo) = false := by simp; omega
      by_cases gi : 0 < i
      · obtain ⟨b', off', y, hA', hb', hy, p0, p1, p2, y1, y2, y3, y4, y5, y6⟩ := hr.at_ (i := i - 1) (by omega)
        injection hA' with hA'
        injection hA' with e1 e2
        subst e1 e2
        have Hy := Lib.hid hy; clear hy
        have hi1 : (0 : Int) < (i : Int) := by omega
        have hi2 : decide (0 < i) = true := by simp; omega
        by_cases gl : x.lo ≤ y.hi
        · have hF : v16B l = false := valid16_no hlt (by rw [Hx.out]; intro h; obtain ⟨h1, h2, h3, h4, h5⟩ := h; have h6 := h5 gi; rw [Hy.out] at h6; omega)
          have HF := Lib.hid hF; clear hF
          have hbl : decide (x.lo ≤ y.hi) = true := by simp; omega
          go_wp2
          go_quiet (fail)
          go_wp2
          go_ret
          exact ⟨ret_bool (by rw [← HA.out, HF.out]), by first | exact ⟨_, rfl⟩ | exact ⟨_, World.drewN_drewN _ _ _⟩⟩
        · have hbl : decide (x.lo ≤ y.hi) = false := by simp; omega
          have hp' := hp.succ (by rw [Upto1, Hx.out, Hy.out]; exact ⟨by omega, by omega, by omega, by omega, fun _ => by omega⟩)
          go_wp2
          go_quiet (fail)
          go_wp2
          go_roundw
          case rel => exact ⟨i + 1, _, by omega, by go_num, rfl, hp'⟩
          case measure => simp [intOf]; omega
      · have hi1 : ¬ ((0 : Int) < (i : Int)) := by omega
        have hi2 : decide (0 < i) = false := by simp; omega
        have hp' := hp.succ (by rw [Upto1, Hx.out]; exact ⟨by omega, by omega, by omega, by omega, fun h => absurd h gi⟩)
        go_wp2
        go_quiet (fail)
        go_wp2
        go_roundw
        case rel => exact ⟨i + 1, _, by omega, by go_num, rfl, hp'⟩
        case measure => simp [intOf]; omega
    · have hF : v16B l = true := valid16_yes (upto_end hp hi hlt)
      have HF := Lib.hid hF; clear hF
      go_wp2
      go_ret
      exact ⟨ret_bool (by rw [← HA.out, HF.out]), by first | exact ⟨_, rfl⟩ | exact ⟨_, World.drewN_drewN _ _ _⟩⟩

set_option maxHeartbeats 2000000 in
set_option maxRecDepth 100000 in
theorem valid32_any (A : Option Addr) (c : Nat) (l : List Rg) (w : World) (B : Nat) (hl : l.length ≤ 9223372036854775807) (hr : Rd w B .u32 4294967296 A l) :
    Calls Try.prog 46 #[.slice A l.length c] w fun e w' => e = .returned (.bool (v32B l)) ∧ ∃ q, w' = w.drewN q := by
  generalize hANS : v32B l = ANS
  have HA := Lib.hid hANS; clear hANS
  go_enter Try.func46, Try.ntmps46
  go_wp2
  go_loopw [3] (fun s wr => ∃ (i q : Nat), i ≤ l.length ∧ s = .int .i64 i ∧ wr = w.drewN q ∧ Upto 65536 1114111 l i) (fun s _ => l.length - (intOf s).toNat)
  case atStart => exact ⟨0, 0, Nat.zero_le _, rfl, rfl, Upto.zero _ _ _⟩
  case round =>
    obtain ⟨i, q, hi, rfl, rfl, hp⟩ := hrel
    by_cases hlt : i < l.length
    · obtain ⟨b, off, x, rfl, hb, hx, c0, c1, c2, b1, b2, b3, b4, b5, b6⟩ := hr.at_ hlt
      have Hx := Lib.hid hx; clear hx
      by_cases g0 : x.st = 0
      · have hF : v32B l = false := valid32_no hlt (by rw [Hx.out]; intro h; obtain ⟨h1, h2, h3, h4, h5⟩ := h; first | exact absurd g0 h1 | omega)
        have HF := Lib.hid hF; clear hF
        have hb0 : (x.st == 0) = true := by simp; omega
        go_wp2
        go_quiet (fail)
        go_wp2
        go_ret
        exact ⟨ret_bool (by rw [← HA.out, HF.out]), by first | exact ⟨_, rfl⟩ | exact ⟨_, World.drewN_drewN _ _ _⟩⟩
      have hb0 : (x.st == 0) = false := by simp; omega
      by_cases g1 : x.hi < x.lo
      · have hF : v32B l = false := valid32_no hlt (by rw [Hx.out]; intro h; obtain ⟨h1, h2, h3, h4, h5⟩ := h; first | exact absurd g0 h1 | omega)
        have HF := Lib.hid hF; clear hF
        have hb1 : decide (x.hi < x.lo) = true := by simp; omega
        go_wp2
        go_quiet (fail)
        go_wp2
        go_ret
        exact ⟨ret_bool (by rw [← HA.out, HF.out]), by first | exact ⟨_, rfl⟩ | exact ⟨_, World.drewN_drewN _ _ _⟩⟩
      have hb1 : decide (x.hi < x.lo) = false := by simp; omega
      by_cases g2 : x.lo < 65536
      · have hF : v32B l = false := valid32_no hlt (by rw [Hx.out]; intro h; obtain ⟨h1, h2, h3, h4, h5⟩ := h; first | exact absurd g0 h1 | omega)
        have HF := Lib.hid hF; clear hF
        have hb2 : decide (x.lo < 65536) = true := by simp; omega
        go_wp2
        go_quiet (fail)
        go_wp2
        go_ret
        exact ⟨ret_bool (by rw [← HA.out, HF.out]), by first | exact ⟨_, rfl⟩ | exact ⟨_, World.drewN_drewN _ _ _⟩⟩
      have hb2 : decide (x.lo < 65536) = false := by simp; omega
      by_cases g3 : 1114111 < x.hi
      · have hF : v32B l = false := valid32_no hlt (by rw [Hx.out]; intro h; obtain ⟨h1, h2, h3, h4, h5⟩ := h; first | exact absurd g0 h1 | omega)
        have HF := Lib.hid hF; clear hF
        have hb3 : decide (1114111 < x.hi) = true := by simp; omega
        go_wp2
        go_quiet (fail)
        go_wp2
        go_ret
        exact ⟨ret_bool (by rw [← HA.out, HF.out]), by first | exact ⟨_, rfl⟩ | exact ⟨_, World.drewN_drewN _ _ _⟩⟩
      have hb3 : decide (1114111 < x.hi) = false := by simp; omega
      by_cases gi : 0 < i
      · obtain ⟨b', off', y, hA', hb', hy, p0, p1, p2, y1, y2, y3, y4, y5, y6⟩ := hr.at_ (i := i - 1) (by omega)
        injection hA' with hA'
        injection hA' with e1 e2
        subst e1 e2
        have Hy := Lib.hid hy; clear hy
        have hi1 : (0 : Int) < (i : Int) := by omega
        have hi2 : decide (0 < i) = true := by simp; omega
        by_cases gl : x.lo ≤ y.hi
        · have hF : v32B l = false := valid32_no hlt (by rw [Hx.out]; intro h; obtain ⟨h1, h2, h3, h4, h5⟩ := h; have h6 := h5 gi; rw [Hy.out] at h6; omega)
          have HF := Lib.hid hF; clear hF
          have hbl : decide (x.lo ≤ y.hi) = true := by simp; omega
          go_wp2
          go_quiet (fail)
          go_wp2
          go_ret
          exact ⟨ret_bool (by rw [← HA.out, HF.out]), by first | exact ⟨_, rfl⟩ | exact ⟨_, World.drewN_drewN _ _ _⟩⟩
        · have hbl : decide (x.lo ≤ y.hi) = false := by simp; omega
          have hp' := hp.succ (by rw [Upto1, Hx.out, Hy.out]; exact ⟨by omega, by omega, by omega, by omega, fun _ => by omega⟩)
          go_wp2
          go_quiet (fail)
          go_wp2
          go_roundw
          case rel => exact ⟨i + 1, _, by omega, by go_num, rfl, hp'⟩
          case measure => simp [intOf]; omega
      · have hi1 : ¬ ((0 : Int) < (i : Int)) := by omega
        have hi2 : decide (0 < i) = false := by simp; omega
        have hp' := hp.succ (by rw [Upto1, Hx.out]; exact ⟨by omega, by omega, by omega, by omega, fun h => absurd h gi⟩)
        go_wp2
        go_quiet (fail)
        go_wp2
        go_roundw
        case rel => exact ⟨i + 1, _, by omega, by go_num, rfl, hp'⟩
        case measure => simp [intOf]; omega
    · have hF : v32B l = true := valid32_yes (upto_end hp hi hlt)
      have HF := Lib.hid hF; clear hF
      go_wp2
      go_ret
      exact ⟨ret_bool (by rw [← HA.out, HF.out]), by first | exact ⟨_, rfl⟩ | exact ⟨_, World.drewN_drewN _ _ _⟩⟩
end Go.Proofs.Ytnhmacmpobkdoaa
