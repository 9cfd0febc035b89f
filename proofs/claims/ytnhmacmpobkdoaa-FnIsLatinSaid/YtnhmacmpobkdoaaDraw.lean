/- The generators' smallest functions: pick returns a number from 0 to below n, one returns one of the numbers of a list, span a distance. -/
import Derived.Test.YtnhmacmpobkdoaaDrawA
import Derived.Test.YtnhmacmpobkdoaaProg
import Derived.Deep.LoopGhost
import Derived.Deep.QuietTactic
import Derived.BigQuiet
import Derived.Deep.DeepMust
import Derived.Laws.BitsAllLaws
import Derived.Laws.BitsLemmas
import Derived.Outline
namespace Go.Proofs.Ytnhmacmpobkdoaa
open Go.RowKit
set_option linter.unusedVariables false

theorem ofInt64 (a : Nat) (ha : a < 9223372036854775808) : (BitVec.ofInt 64 (a : Int)).toNat = a := by
  rw [BitVec.ofInt_natCast, BitVec.toNat_ofNat]; exact Nat.mod_eq_of_lt (by omega)
theorem xor64 (a b : Nat) (ha : a < 9223372036854775808) (hb : b < 9223372036854775808) : bits .xor .i64 (a : Int) (b : Int) = ((a ^^^ b : Nat) : Int) := by
  have hx : a ^^^ b < 2 ^ 63 := Nat.xor_lt_two_pow (by omega) (by omega)
  show IntKind.i64.wrap ((BitVec.ofInt 64 (a : Int) ^^^ BitVec.ofInt 64 (b : Int)).toNat : Int) = _
  rw [BitVec.toNat_xor, ofInt64 a ha, ofInt64 b hb, IntKind.wrap_i64]
  omega
theorem xor_lt63 (a b : Nat) (ha : a < 9223372036854775808) (hb : b < 9223372036854775808) : a ^^^ b < 9223372036854775808 := by
  have hx : a ^^^ b < 2 ^ 63 := Nat.xor_lt_two_pow (by omega) (by omega)
  omega

/-- The numbers that pick mixes, each with a name of its own. -/
theorem mixed (q n x y : Nat) (h0 : 0 < n) (hq : q ≤ 1099511627776) (hx : x < 256) (hy : y < 256) :
    ∃ (m1 m2 X : Nat) (u1 u2 u3 u4 u5 u6 u7 u8 u9 : Int), q % n = m1 ∧ (q * 7 + 3) % n = m2 ∧ (q : Int).tmod (n : Int) = (m1 : Int) ∧ IntKind.i64.wrap ((q : Int) * 7) = u1 ∧ IntKind.i64.wrap (u1 + 3) = u2 ∧ u2.tmod (n : Int) = (m2 : Int) ∧
      IntKind.i64.wrap ((x : Int) * 131) = u3 ∧ IntKind.i64.wrap ((y : Int) * 1117) = u4 ∧ IntKind.i64.wrap (u3 + u4) = u5 ∧ IntKind.i64.wrap ((q : Int) * 29) = u6 ∧ IntKind.i64.wrap (u5 + u6) = u7 ∧
      IntKind.i64.wrap u8 = u8 ∧ IntKind.i64.wrap (u8 * 53) = u9 ∧ IntKind.i64.wrap (u7 + u9) = (X : Int) ∧ (q : Int).tdiv (n : Int) = u8 ∧ X < 4611686018427387904 := by
  have hdiv : q / n ≤ q := Nat.div_le_self _ _
  have e1 : (q : Int).tmod (n : Int) = ((q % n : Nat) : Int) := by rw [Int.tmod_eq_emod_of_nonneg (by omega)]; rfl
  have e2 : ((q : Int) * 7 + 3).tmod (n : Int) = (((q * 7 + 3) % n : Nat) : Int) := by rw [Int.tmod_eq_emod_of_nonneg (by omega)]; rfl
  have e3 : (q : Int).tdiv (n : Int) = ((q / n : Nat) : Int) := by rw [Int.tdiv_eq_ediv_of_nonneg (by omega)]; rfl
  generalize q / n = d at *
  refine ⟨_, _, x * 131 + y * 1117 + q * 29 + d * 53, (q : Int) * 7, (q : Int) * 7 + 3, (x : Int) * 131, (y : Int) * 1117, (x : Int) * 131 + (y : Int) * 1117, (q : Int) * 29, (x : Int) * 131 + (y : Int) * 1117 + (q : Int) * 29, (d : Int), (d : Int) * 53,
    rfl, rfl, e1, ?_, ?_, e2, ?_, ?_, ?_, ?_, ?_, ?_, ?_, ?_, e3, by omega⟩
  all_goals (first | (rw [e3]; exact IntWalk.i64_in _ (by omega)) | exact IntWalk.i64_in _ (by omega) | (rw [IntWalk.i64_in _ (by omega)]; omega))

/-- What pick leaves: a number from 0 to below N. -/
def Picked (w : World) (R base : Nat) (A : Option Addr) (n c q : Nat) (N : Int) (e : Ending) (w' : World) : Prop :=
  ∃ k : Int, e = .returned (.int .i64 k) ∧ 0 ≤ k ∧ k < N ∧ St w' R base A n c (q + 1) ∧ Only R w w'

set_option maxHeartbeats 2000000 in
set_option maxRecDepth 100000 in
theorem pick_any (R base : Nat) (A : Option Addr) (n c q : Nat) (N : Int) (w : World) (hS : St w R base A n c q) (hq : q ≤ 1099511627776) (hN0 : 1 ≤ N) (hN1 : N ≤ 4611686018427387904) :
    Calls Try.prog 41 #[.pointer (some ⟨R, 0, none⟩), .int .i64 N] w (Picked w R base A n c q N) := by
  have k0 := hS.c0
  have k1 := hS.c1
  have f1 := hS.f1
  have hS' := hS.setq (q + 1)
  have hn := hS.2.2.2
  have ho := (Only.refl R w).store 1 (.int .i64 ((q + 1 : Nat) : Int))
  have ec : ((q + 1 : Nat) : Int) = (q : Int) + 1 := by omega
  rw [ec] at hS' ho
  clear ec
  rcases Nat.eq_zero_or_pos n with h0 | h0
  · subst h0
    go_enter Try.func41, Try.ntmps41
    go_wp2
    go_ret
    exact ⟨0, rfl, by omega, by omega, hS', ho⟩
  · obtain ⟨b, off, rfl, hbR, hc⟩ := hS.byte h0
    have h0b : ((n : Int) == 0) = false := by simp; omega
    by_cases hlt : q < n
    · obtain ⟨x, hx, hcx⟩ := hc q hlt
      clear hc
      go_enter Try.func41, Try.ntmps41
      go_wp2
      go_ret
      exact ⟨_, rfl, Int.emod_nonneg _ (by omega), Int.emod_lt_of_pos _ (by omega), hS', ho⟩
    · obtain ⟨x, hx, hcx⟩ := hc (q % n) (Nat.mod_lt _ h0)
      obtain ⟨y, hy, hcy⟩ := hc ((q * 7 + 3) % n) (Nat.mod_lt _ h0)
      clear hc
      obtain ⟨m1, m2, X, u1, u2, u3, u4, u5, u6, u7, u8, u9, hm1, hm2, g1, g2, g3, g4, g5, g6, g7, g8, g9, g10, g11, g12, g13, hX⟩ := mixed q n x y h0 hq hx hy
      rw [hm1] at hcx
      rw [hm2] at hcy
      have hl1 : m1 < n := by rw [← hm1]; exact Nat.mod_lt _ h0
      have hl2 : m2 < n := by rw [← hm2]; exact Nat.mod_lt _ h0
      have hz1 : (m1 : Int) < (n : Int) := by omega
      have hz2 : (m2 : Int) < (n : Int) := by omega
      clear hm1 hm2
      have hn0 : ¬ (n = 0) := by omega
      have hN2 : ¬ (N < 1) := by omega
      obtain ⟨Z, hxo⟩ : ∃ Z : Nat, bits .xor .i64 (X : Int) ((X : Int) / 64) = (Z : Int) := ⟨X ^^^ X / 64, xor64 X (X / 64) (by omega) (by omega)⟩
      have hd := Int.emod_nonneg (Z : Int) (show N ≠ 0 by omega)
      have hd' := Int.emod_lt_of_pos (Z : Int) (show 0 < N by omega)
      go_enter Try.func41, Try.ntmps41
      go_wp2
      go_quiet (fail)
      clear g1 g2 g3 g4 g5 g6 g7 g8 g9 g10 g11 g12 g13
      go_wp2
      go_ret
      exact ⟨_, rfl, hd, hd', hS'.drewN _, ho.drewN _⟩
end Go.Proofs.Ytnhmacmpobkdoaa
