/- The generators' small functions: one returns one of the numbers of a list, span a distance, ranges16 and ranges32 lists of ranges. -/
import Derived.Test.YtnhmacmpobkdoaaDraw
namespace Go.Proofs.Ytnhmacmpobkdoaa
open Go.RowKit
set_option linter.unusedVariables false

/-- A number from lo to hi, and the reader has gone on by at most d. -/
def Drawn (w : World) (R base : Nat) (A : Option Addr) (n c q d : Nat) (lo hi : Int) (e : Ending) (w' : World) : Prop :=
  ∃ (k : Int) (q' : Nat), e = .returned (.int .i64 k) ∧ lo ≤ k ∧ k ≤ hi ∧ q' ≤ q + d ∧ St w' R base A n c q' ∧ Only R w w'

set_option maxHeartbeats 1000000 in
theorem one_any (R base : Nat) (A : Option Addr) (n c q L : Nat) (zs : List Int) (lo hi : Int) (w : World) (hS : St w R base A n c q) (hq : q ≤ 1099511627776) (hl0 : 0 < zs.length) (hl1 : zs.length ≤ 1048576)
    (hL : Bk w L 3 (zs.map (Value.int .i64)).toArray) (hz : ∀ z ∈ zs, lo ≤ z ∧ z ≤ hi) :
    Calls Try.prog 47 #[.pointer (some ⟨R, 0, none⟩), .slice (some ⟨L, 0, none⟩) zs.length zs.length] w (Drawn w R base A n c q 1 lo hi) := by
  have HP := Lib.hid (pick_any R base A n c q (zs.length : Int) w hS hq (by omega) (by omega))
  have HZ := Lib.hid hz; clear hz
  have hne : some L ≠ some R := fun h => by injection h with h; exact Bk.ne_ hL hS.bk (by decide) h
  have HL := Lib.hid hL; clear hL
  go_enter Try.func47, Try.ntmps47
  go_wp2_with fail
  go_at_call 41
  refine HP.out.mono ?_
  rintro e w1 ⟨k, rfl, h0, h1, hS1, ho⟩
  obtain ⟨m, rfl⟩ := Int.eq_ofNat_of_zero_le h0
  have hm : m < zs.length := by omega
  have hc : w1.cell? ⟨L, m, none⟩ = some (.int .i64 zs[m]) := by
    rw [(HL.out.grown ho hne).cell]
    simp [hm]
  have hb := HZ.out zs[m] (List.getElem_mem hm)
  generalize hzm : zs[m] = z at hc hb
  clear hzm
  go_wp2
  go_ret
  exact ⟨z, q + 1, rfl, hb.1, hb.2, Nat.le_refl _, hS1, ho⟩

set_option maxHeartbeats 1000000 in
theorem span_any (R base : Nat) (A : Option Addr) (n c q : Nat) (w : World) (hS : St w R base A n c q) (hq : q ≤ 1099511620000) :
    Calls Try.prog 54 #[.pointer (some ⟨R, 0, none⟩)] w (Drawn w R base A n c q 3 0 65535) := by
  have HP := Lib.hid (pick_any R base A n c q 8 w hS (by omega) (by omega) (by omega))
  go_enter Try.func54, Try.ntmps54
  go_wp2_with fail
  go_at_call 41
  refine HP.out.mono ?_
  rintro e w1 ⟨k, rfl, h0, h1, hS1, ho1⟩
  by_cases hk : k = 0
  · subst hk
    have HP2 := Lib.hid (pick_any R base A n c (q + 1) 256 w1 hS1 (by omega) (by omega) (by omega))
    go_wp2_with fail
    go_at_call 41
    refine HP2.out.mono ?_
    rintro e w2 ⟨k2, rfl, g0, g1, hS2, ho2⟩
    have HP3 := Lib.hid (pick_any R base A n c (q + 1 + 1) 256 w2 hS2 (by omega) (by omega) (by omega))
    go_wp2_with fail
    go_at_call 41
    refine HP3.out.mono ?_
    rintro e w3 ⟨k3, rfl, i0, i1, hS3, ho3⟩
    go_wp2
    go_ret
    exact ⟨_, _, rfl, by omega, by omega, Nat.le_refl _, hS3, (ho1.trans ho2).trans ho3⟩
  · have hkb : (k == 0) = false := by simp [hk]
    have hO := one_any R base A n c (q + 1) w1.heap.size [0, 1, 2, 3, 5, 8, 20, 60] 0 65535 _ (hS1.alloc (.cells #[.int .i64 0, .int .i64 1, .int .i64 2, .int .i64 3, .int .i64 5, .int .i64 8, .int .i64 20, .int .i64 60] 3)) (by omega) (by simp) (by simp) (Bk.new _ _ _) (by simp)
    have HO := Lib.hid hO; clear hO
    go_wp2_with fail
    go_at_call 47
    refine HO.out.mono ?_
    rintro e w2 ⟨z, q2, rfl, g0, g1, hq2, hS2, ho2⟩
    go_wp2
    go_ret
    exact ⟨_, _, rfl, g0, g1, by omega, hS2, ho1.trans ((Only.refl _ _).alloc _ |>.trans ho2)⟩
end Go.Proofs.Ytnhmacmpobkdoaa
