/- The library's two searches over sorted ranges: each reports whether the number is in one of the ranges. Conditions: the ranges are sorted and lie in memory. -/
import Derived.Test.YtnhmacmpobkdoaaMem
import Derived.Test.YtnhmacmpobkdoaaProg
import Derived.Deep.LoopGhost
import Derived.Deep.QuietTactic
import Derived.BigQuiet
import Derived.Deep.DeepMust
import Derived.Outline
namespace Go.Proofs.Ytnhmacmpobkdoaa
open Go.RowKit
set_option linter.unusedVariables false

set_option maxHeartbeats 1000000 in
set_option maxRecDepth 100000 in
theorem is16_lin (A : Option Addr) (c : Nat) (l : List Rg) (z : Int) (w : World) (hz0 : 0 ≤ z) (hz1 : z < 65536) (hs : Srt 0 65535 l) (hr : Rd w w.heap.size .u16 65536 A l) (hlin : l.length ≤ 18 ∨ z ≤ 255) :
    Calls Try.prog 52 #[.slice A l.length c, .int .u16 z] w fun e w' => e = .returned (.bool (memB l z)) ∧ Below w.heap.size w w' := by
  have hlen := hs.len16
  generalize hANS : memB l z = ANS
  have HA := Lib.hid hANS; clear hANS
  have hlb : ((decide ((l.length : Int) ≤ 18)) || (decide (z ≤ 255))) = true := by
    rcases hlin with h | h
    · simp; left; omega
    · simp; right; omega
  clear hlin
  go_enter Try.func52, Try.ntmps52
  go_wp2
  all_goals (
    go_loop [20] (fun s => ∃ i : Nat, i ≤ l.length ∧ s = .int .i64 i ∧ Past l z i) (fun s => l.length - (intOf s).toNat)
    case atStart => exact ⟨0, Nat.zero_le _, rfl, Past.zero _ _⟩
    case round =>
      obtain ⟨i, hi, rfl, hp⟩ := hrel
      by_cases hlt : i < l.length
      · obtain ⟨b, off, x, rfl, hb, hx, c0, c1, c2, b1, b2, b3, b4, b5, b6⟩ := hr.at_ hlt
        have Hx := Lib.hid hx; clear hx
        have hst : x.st ≠ 0 := by have := (hs i hlt).1; rw [Hx.out] at this; exact this
        by_cases h1 : z < x.lo
        · have hF : memB l z = false := mem_gap hp (Ahead.from_ hs (by rw [Hx.out]; exact h1))
          have HF := Lib.hid hF; clear hF
          go_wp2
          go_ret
          exact ⟨ret_bool (by rw [← HA.out, HF.out]), Below.refl _ _⟩
        · by_cases h2 : z ≤ x.hi
          · have hF := mem_at (r := z) hs i hlt (by rw [Hx.out]; omega) (by rw [Hx.out]; exact h2)
            rw [Hx.out] at hF
            have HF := Lib.hid hF; clear hF
            by_cases hS1 : x.st = 1
            · have HS := Lib.hid hS1
              have hSb : (x.st == 1) = true := by simp [hS1]
              clear hS1
              go_wp2
              go_quiet (fail)
              go_wp2
              go_ret
              exact ⟨ret_bool (by rw [← HA.out, HF.out, HS.out]; simp [Int.emod_one]), below_drewN (Below.refl _ _) _⟩
            · have hSb : (x.st == 1) = false := by simp; omega
              have hS0 : ¬ (x.st = 0) := hst
              clear hS1
              go_wp2
              go_quiet (fail)
              go_wp2
              go_ret
              exact ⟨ret_bool (by rw [← HA.out, HF.out]), below_drewN (Below.refl _ _) _⟩
          · have hp' := hp.succ (i := i) (by rw [Hx.out]; omega)
            go_wp2
            go_round
            case rel => exact ⟨i + 1, by omega, by go_num, hp'⟩
            case measure => simp [intOf]; omega
      · have hF : memB l z = false := by
          have : i = l.length := by omega
          subst this
          exact mem_gap hp (Ahead.end_ _ _)
        have HF := Lib.hid hF; clear hF
        go_wp2
        go_ret
        exact ⟨ret_bool (by rw [← HA.out, HF.out]), Below.refl _ _⟩)

set_option maxHeartbeats 1000000 in
set_option maxRecDepth 100000 in
theorem is16_bin (A : Option Addr) (c : Nat) (l : List Rg) (z : Int) (w : World) (hz0 : 0 ≤ z) (hz1 : z < 65536) (hs : Srt 0 65535 l) (hr : Rd w w.heap.size .u16 65536 A l) (hlin : ¬ (l.length ≤ 18 ∨ z ≤ 255)) :
    Calls Try.prog 52 #[.slice A l.length c, .int .u16 z] w fun e w' => e = .returned (.bool (memB l z)) ∧ Below w.heap.size w w' := by
  have hlen := hs.len16
  generalize hANS : memB l z = ANS
  have HA := Lib.hid hANS; clear hANS
  have hl1 : ¬ ((l.length : Int) ≤ 18) := by omega
  have hl2 : ¬ (z ≤ 255) := by omega
  clear hlin
  go_enter Try.func52, Try.ntmps52
  go_wp2
  all_goals (
    go_loopg [7, 8] (l.length + 1) (fun g s7 s8 wx => Below w.heap.size w wx ∧ ∃ lo hi : Nat, s7 = .int .i64 lo ∧ s8 = .int .i64 hi ∧ lo ≤ hi ∧ hi ≤ l.length ∧ hi - lo < g ∧ Past l z lo ∧ Ahead l z hi)
    case atStart => exact ⟨Below.refl _ _, 0, l.length, rfl, rfl, Nat.zero_le _, Nat.le_refl _, by omega, Past.zero _ _, Ahead.end_ _ _⟩
    case round =>
      obtain ⟨hbw, lo, hi, rfl, rfl, hlh, hhn, hg, hp, ha⟩ := hrel
      by_cases hlt : lo < hi
      · obtain ⟨g', rfl⟩ : ∃ g', gk = g' + 1 := ⟨gk - 1, by omega⟩
        have hzz : (lo : Int) < (hi : Int) := by omega
        obtain ⟨m, hm⟩ : ∃ m, (lo + hi) / 2 = m := ⟨_, rfl⟩
        have hmr : lo ≤ m ∧ m < hi := by omega
        have hmz : ((lo : Int) + (hi : Int)) / 2 = (m : Int) := by omega
        have hml : m < l.length := by omega
        obtain ⟨b, off, x, rfl, hb, hx, c0, c1, c2, b1, b2, b3, b4, b5, b6⟩ := (hr.below hbw).at_ hml
        have Hx := Lib.hid hx; clear hx
        have hst : x.st ≠ 0 := by have := (hs m hml).1; rw [Hx.out] at this; exact this
        by_cases hin : x.lo ≤ z ∧ z ≤ x.hi
        · obtain ⟨h1, h2⟩ := hin
          have hF := mem_at (r := z) hs m hml (by rw [Hx.out]; exact h1) (by rw [Hx.out]; exact h2)
          rw [Hx.out] at hF
          have HF := Lib.hid hF; clear hF
          by_cases hS1 : x.st = 1
          · have HS := Lib.hid hS1
            have hSb : (x.st == 1) = true := by simp [hS1]
            clear hS1
            go_wp2
            go_quiet (fail)
            go_wp2
            all_goals (go_ret; exact ⟨ret_bool (by rw [← HA.out, HF.out, HS.out]; simp [Int.emod_one]), below_drewN hbw _⟩)
          · have hSb : (x.st == 1) = false := by simp; omega
            have hS0 : ¬ (x.st = 0) := hst
            clear hS1
            go_wp2
            go_quiet (fail)
            go_wp2
            all_goals (go_ret; exact ⟨ret_bool (by rw [← HA.out, HF.out]), below_drewN hbw _⟩)
        · by_cases hb : z < x.lo
          · have ha' := Ahead.from_ hs (r := z) (i := m) (by rw [Hx.out]; exact hb)
            have h1z : ¬ (x.lo ≤ z) := by omega
            clear hin
            go_wp2
            go_roundg g'
            case measure => omega
            case rel => exact ⟨hbw, lo, m, rfl, rfl, by omega, by omega, by omega, hp, ha'⟩
          · have hp' := Past.upto hs (r := z) hml (by rw [Hx.out]; omega)
            have h1z : x.lo ≤ z := by omega
            have h2z : ¬ (z ≤ x.hi) := by omega
            clear hin
            go_wp2
            go_roundg g'
            case measure => omega
            case rel => exact ⟨hbw, m + 1, hi, by first | rfl | simp, rfl, by omega, by omega, by omega, hp', ha⟩
      · have hF : memB l z = false := by
          have : lo = hi := by omega
          subst this
          exact mem_gap hp ha
        have HF := Lib.hid hF; clear hF
        have hzz : ¬ ((lo : Int) < (hi : Int)) := by omega
        go_wp2
        go_ret
        exact ⟨ret_bool (by rw [← HA.out, HF.out]), hbw⟩)

theorem is16_any (A : Option Addr) (c : Nat) (l : List Rg) (z : Int) (w : World) (hz0 : 0 ≤ z) (hz1 : z < 65536) (hs : Srt 0 65535 l) (hr : Rd w w.heap.size .u16 65536 A l) :
    Calls Try.prog 52 #[.slice A l.length c, .int .u16 z] w fun e w' => e = .returned (.bool (memB l z)) ∧ Below w.heap.size w w' := by
  by_cases h : l.length ≤ 18 ∨ z ≤ 255
  · exact is16_lin A c l z w hz0 hz1 hs hr h
  · exact is16_bin A c l z w hz0 hz1 hs hr h

set_option maxHeartbeats 1000000 in
set_option maxRecDepth 100000 in
theorem is32_lin (A : Option Addr) (c : Nat) (l : List Rg) (z : Int) (w : World) (hz0 : 0 ≤ z) (hz1 : z < 4294967296) (hs : Srt 65536 1114111 l) (hr : Rd w w.heap.size .u32 4294967296 A l) (hlin : l.length ≤ 18) :
    Calls Try.prog 53 #[.slice A l.length c, .int .u32 z] w fun e w' => e = .returned (.bool (memB l z)) ∧ Below w.heap.size w w' := by
  have hlen := hs.len32
  generalize hANS : memB l z = ANS
  have HA := Lib.hid hANS; clear hANS
  have hl1 : (l.length : Int) ≤ 18 := by omega
  go_enter Try.func53, Try.ntmps53
  go_wp2
  all_goals (
    go_loop [16] (fun s => ∃ i : Nat, i ≤ l.length ∧ s = .int .i64 i ∧ Past l z i) (fun s => l.length - (intOf s).toNat)
    case atStart => exact ⟨0, Nat.zero_le _, rfl, Past.zero _ _⟩
    case round =>
      obtain ⟨i, hi, rfl, hp⟩ := hrel
      by_cases hlt : i < l.length
      · obtain ⟨b, off, x, rfl, hb, hx, c0, c1, c2, b1, b2, b3, b4, b5, b6⟩ := hr.at_ hlt
        have Hx := Lib.hid hx; clear hx
        have hst : x.st ≠ 0 := by have := (hs i hlt).1; rw [Hx.out] at this; exact this
        by_cases h1 : z < x.lo
        · have hF : memB l z = false := mem_gap hp (Ahead.from_ hs (by rw [Hx.out]; exact h1))
          have HF := Lib.hid hF; clear hF
          go_wp2
          go_ret
          exact ⟨ret_bool (by rw [← HA.out, HF.out]), Below.refl _ _⟩
        · by_cases h2 : z ≤ x.hi
          · have hF := mem_at (r := z) hs i hlt (by rw [Hx.out]; omega) (by rw [Hx.out]; exact h2)
            rw [Hx.out] at hF
            have HF := Lib.hid hF; clear hF
            by_cases hS1 : x.st = 1
            · have HS := Lib.hid hS1
              have hSb : (x.st == 1) = true := by simp [hS1]
              clear hS1
              go_wp2
              go_quiet (fail)
              go_wp2
              go_ret
              exact ⟨ret_bool (by rw [← HA.out, HF.out, HS.out]; simp [Int.emod_one]), below_drewN (Below.refl _ _) _⟩
            · have hSb : (x.st == 1) = false := by simp; omega
              have hS0 : ¬ (x.st = 0) := hst
              clear hS1
              go_wp2
              go_quiet (fail)
              go_wp2
              go_ret
              exact ⟨ret_bool (by rw [← HA.out, HF.out]), below_drewN (Below.refl _ _) _⟩
          · have hp' := hp.succ (i := i) (by rw [Hx.out]; omega)
            go_wp2
            go_round
            case rel => exact ⟨i + 1, by omega, by go_num, hp'⟩
            case measure => simp [intOf]; omega
      · have hF : memB l z = false := by
          have : i = l.length := by omega
          subst this
          exact mem_gap hp (Ahead.end_ _ _)
        have HF := Lib.hid hF; clear hF
        go_wp2
        go_ret
        exact ⟨ret_bool (by rw [← HA.out, HF.out]), Below.refl _ _⟩)

set_option maxHeartbeats 1000000 in
set_option maxRecDepth 100000 in
theorem is32_bin (A : Option Addr) (c : Nat) (l : List Rg) (z : Int) (w : World) (hz0 : 0 ≤ z) (hz1 : z < 4294967296) (hs : Srt 65536 1114111 l) (hr : Rd w w.heap.size .u32 4294967296 A l) (hlin : ¬ (l.length ≤ 18)) :
    Calls Try.prog 53 #[.slice A l.length c, .int .u32 z] w fun e w' => e = .returned (.bool (memB l z)) ∧ Below w.heap.size w w' := by
  have hlen := hs.len32
  generalize hANS : memB l z = ANS
  have HA := Lib.hid hANS; clear hANS
  have hl1 : ¬ ((l.length : Int) ≤ 18) := by omega
  go_enter Try.func53, Try.ntmps53
  go_wp2
  all_goals (
    go_loopg [7, 8] (l.length + 1) (fun g s7 s8 wx => Below w.heap.size w wx ∧ ∃ lo hi : Nat, s7 = .int .i64 lo ∧ s8 = .int .i64 hi ∧ lo ≤ hi ∧ hi ≤ l.length ∧ hi - lo < g ∧ Past l z lo ∧ Ahead l z hi)
    case atStart => exact ⟨Below.refl _ _, 0, l.length, rfl, rfl, Nat.zero_le _, Nat.le_refl _, by omega, Past.zero _ _, Ahead.end_ _ _⟩
    case round =>
      obtain ⟨hbw, lo, hi, rfl, rfl, hlh, hhn, hg, hp, ha⟩ := hrel
      by_cases hlt : lo < hi
      · obtain ⟨g', rfl⟩ : ∃ g', gk = g' + 1 := ⟨gk - 1, by omega⟩
        have hzz : (lo : Int) < (hi : Int) := by omega
        obtain ⟨m, hm⟩ : ∃ m, (lo + hi) / 2 = m := ⟨_, rfl⟩
        have hmr : lo ≤ m ∧ m < hi := by omega
        have hmz : ((lo : Int) + (hi : Int)) / 2 = (m : Int) := by omega
        have hml : m < l.length := by omega
        obtain ⟨b, off, x, rfl, hb, hx, c0, c1, c2, b1, b2, b3, b4, b5, b6⟩ := (hr.below hbw).at_ hml
        have Hx := Lib.hid hx; clear hx
        have hst : x.st ≠ 0 := by have := (hs m hml).1; rw [Hx.out] at this; exact this
        by_cases hin : x.lo ≤ z ∧ z ≤ x.hi
        · obtain ⟨h1, h2⟩ := hin
          have hF := mem_at (r := z) hs m hml (by rw [Hx.out]; exact h1) (by rw [Hx.out]; exact h2)
          rw [Hx.out] at hF
          have HF := Lib.hid hF; clear hF
          by_cases hS1 : x.st = 1
          · have HS := Lib.hid hS1
            have hSb : (x.st == 1) = true := by simp [hS1]
            clear hS1
            go_wp2
            all_goals (go_ret; exact ⟨ret_bool (by rw [← HA.out, HF.out, HS.out]; simp [Int.emod_one]), hbw.alloc hbw.size _⟩)
          · have hSb : (x.st == 1) = false := by simp; omega
            have hS0 : ¬ (x.st = 0) := hst
            clear hS1
            go_wp2
            all_goals (go_ret; exact ⟨ret_bool (by rw [← HA.out, HF.out]), hbw.alloc hbw.size _⟩)
        · by_cases hb : z < x.lo
          · have ha' := Ahead.from_ hs (r := z) (i := m) (by rw [Hx.out]; exact hb)
            have h1z : ¬ (x.lo ≤ z) := by omega
            clear hin
            go_wp2
            go_roundg g'
            case measure => omega
            case rel => exact ⟨hbw.alloc hbw.size _, lo, m, rfl, rfl, by omega, by omega, by omega, hp, ha'⟩
          · have hp' := Past.upto hs (r := z) hml (by rw [Hx.out]; omega)
            have h1z : x.lo ≤ z := by omega
            have h2z : ¬ (z ≤ x.hi) := by omega
            clear hin
            go_wp2
            go_roundg g'
            case measure => omega
            case rel => exact ⟨hbw.alloc hbw.size _, m + 1, hi, by first | rfl | simp, rfl, by omega, by omega, by omega, hp', ha⟩
      · have hF : memB l z = false := by
          have : lo = hi := by omega
          subst this
          exact mem_gap hp ha
        have HF := Lib.hid hF; clear hF
        have hzz : ¬ ((lo : Int) < (hi : Int)) := by omega
        go_wp2
        go_ret
        exact ⟨ret_bool (by rw [← HA.out, HF.out]), hbw⟩)

theorem is32_any (A : Option Addr) (c : Nat) (l : List Rg) (z : Int) (w : World) (hz0 : 0 ≤ z) (hz1 : z < 4294967296) (hs : Srt 65536 1114111 l) (hr : Rd w w.heap.size .u32 4294967296 A l) :
    Calls Try.prog 53 #[.slice A l.length c, .int .u32 z] w fun e w' => e = .returned (.bool (memB l z)) ∧ Below w.heap.size w w' := by
  by_cases h : l.length ≤ 18
  · exact is32_lin A c l z w hz0 hz1 hs hr h
  · exact is32_bin A c l z w hz0 hz1 hs hr h
end Go.Proofs.Ytnhmacmpobkdoaa
