/- The library's Is over a table in memory: it reports whether the number is in one of the ranges of the two lists. Conditions: both lists are sorted, within their bounds, and lie in memory. -/
import Derived.Test.YtnhmacmpobkdoaaLib
namespace Go.Proofs.Ytnhmacmpobkdoaa
open Go.RowKit
set_option linter.unusedVariables false

theorem wrap16_small {r : Int} (h0 : 0 ≤ r) (h1 : r ≤ 65535) : IntKind.u16.wrap r = r := by rw [IntKind.wrap_u16]; omega

set_option maxHeartbeats 1000000 in
set_option maxRecDepth 100000 in
theorem uniIs_any (g o : Nat) (A16 A32 : Option Addr) (c16 c32 : Nat) (a b : List Rg) (r : Int) (w : World) (hlo : -2147483648 ≤ r) (hhi : r ≤ 2147483647)
    (sa : Srt 0 65535 a) (sb : Srt 65536 1114111 b) (ra : Rd w w.heap.size .u16 65536 A16 a) (rb : Rd w w.heap.size .u32 4294967296 A32 b)
    (k0 : w.cell? ⟨g, o, none⟩ = some (.slice A16 a.length c16)) (k1 : w.cell? ⟨g, o + 1, none⟩ = some (.slice A32 b.length c32)) :
    Calls Try.prog 43 #[.pointer (some ⟨g, o, none⟩), .int .i32 r] w fun e w' => e = .returned (.bool (memB a r || memB b r)) ∧ Below w.heap.size w w' := by
  have la := sa.len16
  have lb := sb.len32
  generalize hANS : (memB a r || memB b r) = ANS
  have HA := Lib.hid hANS; clear hANS
  by_cases h16 : 0 < a.length
  · have hz1 : (0 : Int) < (a.length : Int) := by omega
    obtain ⟨b1, o1, x, rfl, hb1, hx, c0, c1, c2, d1, d2, d3, d4, d5, d6⟩ := ra.at_ (i := a.length - 1) (by omega)
    have Hx := Lib.hid hx; clear hx
    clear c0 c2
    by_cases hle : 0 ≤ r ∧ r ≤ x.hi
    · obtain ⟨hr0, hr1⟩ := hle
      have hF : memB b r = false := mem_neg sb (by omega)
      have HF := Lib.hid hF; clear hF
      have hc := is16_any (some ⟨b1, o1, none⟩) c16 a r w hr0 (by omega) sa ra
      have hw := wrap16_small hr0 (by omega)
      have hm : r % 4294967296 = r := by omega
      go_enter Try.func43, Try.ntmps43
      go_wp2_with (go_at_call 52; go_must (refine hc.mono ?_; rintro e w' ⟨rfl, hb⟩))
      all_goals (go_ret; exact ⟨ret_bool (by rw [← HA.out, HF.out, Bool.or_false]), hb⟩)
    · have hF : memB a r = false := by
        rcases Int.lt_or_le r 0 with h | h
        · exact mem_neg sa h
        · exact mem_last sa h16 (by rw [Hx.out]; omega)
      have HF := Lib.hid hF; clear hF
      have hu : ¬ (r % 4294967296 ≤ x.hi) := by omega
      clear hle
      by_cases h32 : 0 < b.length
      · have hz32 : (0 : Int) < (b.length : Int) := by omega
        obtain ⟨b2, o2, y, rfl, hb2, hy, f0, f1, f2, e1, e2, e3, e4, e5, e6⟩ := rb.at_ (i := 0) h32
        have Hy := Lib.hid hy; clear hy
        clear f1 f2
        simp only [Nat.zero_mul, Nat.add_zero] at f0
        have hy0 : 65536 ≤ y.lo := by have := (sb 0 h32).2.2.1; rw [Hy.out] at this; exact this
        have hy1 : y.lo ≤ 1114111 := by have h1 := (sb 0 h32).2.1; have h2 := (sb 0 h32).2.2.2.1; rw [Hy.out] at h1 h2; omega
        by_cases hge : y.lo ≤ r
        · have hc := is32_any (some ⟨b2, o2, none⟩) c32 b r w (by omega) (by omega) sb rb
          have hm : r % 4294967296 = r := by omega
          go_enter Try.func43, Try.ntmps43
          go_wp2_with (go_at_call 53; go_must (refine hc.mono ?_; rintro e w' ⟨rfl, hb⟩))
          all_goals (go_ret; exact ⟨ret_bool (by rw [← HA.out, HF.out, Bool.false_or]), hb⟩)
        · have hG : memB b r = false := mem_first sb (by rw [Hy.out]; omega)
          have HG := Lib.hid hG; clear hG
          go_enter Try.func43, Try.ntmps43
          go_wp2
          all_goals (go_ret; exact ⟨ret_bool (by rw [← HA.out, HF.out, HG.out]; rfl), Below.refl _ _⟩)
      · have hG := mem_empty h32 r
        have HG := Lib.hid hG; clear hG
        have hz32 : ¬ ((0 : Int) < (b.length : Int)) := by omega
        go_enter Try.func43, Try.ntmps43
        go_wp2
        all_goals (go_ret; exact ⟨ret_bool (by rw [← HA.out, HF.out, HG.out]; rfl), Below.refl _ _⟩)
  · have hF := mem_empty h16 r
    have HF := Lib.hid hF; clear hF
    have hz1 : ¬ ((0 : Int) < (a.length : Int)) := by omega
    by_cases h32 : 0 < b.length
    · have hz32 : (0 : Int) < (b.length : Int) := by omega
      obtain ⟨b2, o2, y, rfl, hb2, hy, f0, f1, f2, e1, e2, e3, e4, e5, e6⟩ := rb.at_ (i := 0) h32
      have Hy := Lib.hid hy; clear hy
      clear f1 f2
      simp only [Nat.zero_mul, Nat.add_zero] at f0
      have hy0 : 65536 ≤ y.lo := by have := (sb 0 h32).2.2.1; rw [Hy.out] at this; exact this
      have hy1 : y.lo ≤ 1114111 := by have h1 := (sb 0 h32).2.1; have h2 := (sb 0 h32).2.2.2.1; rw [Hy.out] at h1 h2; omega
      by_cases hge : y.lo ≤ r
      · have hc := is32_any (some ⟨b2, o2, none⟩) c32 b r w (by omega) (by omega) sb rb
        have hm : r % 4294967296 = r := by omega
        go_enter Try.func43, Try.ntmps43
        go_wp2_with (go_at_call 53; go_must (refine hc.mono ?_; rintro e w' ⟨rfl, hb⟩))
        all_goals (go_ret; exact ⟨ret_bool (by rw [← HA.out, HF.out, Bool.false_or]), hb⟩)
      · have hG : memB b r = false := mem_first sb (by rw [Hy.out]; omega)
        have HG := Lib.hid hG; clear hG
        go_enter Try.func43, Try.ntmps43
        go_wp2
        all_goals (go_ret; exact ⟨ret_bool (by rw [← HA.out, HF.out, HG.out]; rfl), Below.refl _ _⟩)
    · have hG := mem_empty h32 r
      have HG := Lib.hid hG; clear hG
      have hz32 : ¬ ((0 : Int) < (b.length : Int)) := by omega
      go_enter Try.func43, Try.ntmps43
      go_wp2
      all_goals (go_ret; exact ⟨ret_bool (by rw [← HA.out, HF.out, HG.out]; rfl), Below.refl _ _⟩)
end Go.Proofs.Ytnhmacmpobkdoaa
