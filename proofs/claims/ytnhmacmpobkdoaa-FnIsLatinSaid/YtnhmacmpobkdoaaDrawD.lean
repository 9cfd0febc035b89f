/- The generators' ranges32: a list of ranges in new memory; nothing else is changed but the reader. -/
import Derived.Test.YtnhmacmpobkdoaaDrawC
namespace Go.Proofs.Ytnhmacmpobkdoaa
open Go.RowKit
set_option linter.unusedVariables false

set_option maxHeartbeats 4000000 in
set_option maxRecDepth 100000 in
theorem ranges32_any (R base : Nat) (A : Option Addr) (n c q N : Nat) (w : World) (hS : St w R base A n c q) (hq : q ≤ 1099511600000) (hN : N ≤ 40) :
    Calls Try.prog 51 #[.pointer (some ⟨R, 0, none⟩), .int .i64 (N : Int)] w (Ranged w R base A n c q (1 + 9 * N) N 65 .u32 4294967296) := by
  obtain ⟨i0, hi0, hz0, hz1, hz2⟩ := info_parts info_r32
  have hB : base ≤ w.heap.size := by have := hS.lt; have := hS.1; omega
  have G0 := Gen.start (T := 65) w .u32 4294967296 hS
  clear hS
  go_enter Try.func51, Try.ntmps51
  have HO0 := Lib.hid (one_any R base A n c q (w.heap.size + 1) [65536, 65536, 66560, 128512, 1113856] 0 1114112 _ (G0.st.alloc (.cells #[.int .i64 65536, .int .i64 65536, .int .i64 66560, .int .i64 128512, .int .i64 1113856] 3)) (by omega) (by simp) (by simp) (by have := Bk.new (w.alloc (.cells #[] 65)) 3 #[.int .i64 65536, .int .i64 65536, .int .i64 66560, .int .i64 128512, .int .i64 1113856]; rw [World.size_alloc] at this; exact this) (by intro z hz; simp at hz; omega))
  go_wp2_with fail
  go_at_call 47
  refine HO0.out.mono ?_
  rintro e w0 ⟨z0, q0, rfl, a0, b0, hq0, hS0, ho0⟩
  have G1 := (G0.alloc (.cells #[.int .i64 65536, .int .i64 65536, .int .i64 66560, .int .i64 128512, .int .i64 1113856] 3)).next (by decide) hS0 ho0
  clear HO0 hS0 ho0 G0
  go_wp2_with fail
  go_loopw [1, 5, 6] (fun s1 s5 s6 wr => ∃ (k : Nat) (A' : Option Addr) (c' : Nat) (l : List Rg) (q' : Nat) (nx : Int), k ≤ N ∧ s1 = .int .i64 (k : Int) ∧ s5 = .slice A' l.length c' ∧ s6 = .int .i64 nx ∧ 0 ≤ nx ∧ nx ≤ 1114112 ∧ l.length + k ≤ N ∧ q' + 9 * k ≤ q + 1 + 9 * N ∧ Gen w R base A n c 65 .u32 4294967296 q' A' c' l wr) (fun s1 _ _ _ => (intOf s1).toNat)
  case atStart => exact ⟨N, some ⟨w.heap.size, 0, none⟩, 0, [], q0, z0, Nat.le_refl _, rfl, rfl, rfl, a0, b0, by simp, by omega, G1⟩
  case round =>
    clear G1
    obtain ⟨k, A', c', l, q', nx, hk, rfl, rfl, rfl, hn0, hn1, hlk, hqk, G⟩ := hrel
    by_cases hk0 : 0 < k
    · have hkz : (0 : Int) < (k : Int) := by omega
      have HP1 := Lib.hid (span_any R base A n c q' wr G.st (by omega))
      go_wp2_with fail
      go_at_call 54
      refine HP1.out.mono ?_
      rintro e w1 ⟨z1, q1, rfl, a1, b1, hq1, hS1, ho1⟩
      have G1 := G.next (by decide) hS1 ho1
      clear HP1 hS1 ho1 G
      have HO2 := Lib.hid (one_any R base A n c q1 w1.heap.size [0, 0, 0, 1, 2, 6, 255] 0 255 _ (G1.st.alloc (.cells #[.int .i64 0, .int .i64 0, .int .i64 0, .int .i64 1, .int .i64 2, .int .i64 6, .int .i64 255] 3)) (by omega) (by simp) (by simp) (Bk.new _ _ _) (by intro z hz; simp at hz; omega))
      go_wp2_with fail
      go_at_call 47
      refine HO2.out.mono ?_
      rintro e w2 ⟨z2, q2, rfl, a2, b2, hq2, hS2, ho2⟩
      have G2 := (G1.alloc (.cells #[.int .i64 0, .int .i64 0, .int .i64 0, .int .i64 1, .int .i64 2, .int .i64 6, .int .i64 255] 3)).next (by decide) hS2 ho2
      clear HO2 hS2 ho2
      clear G1
      have HO3 := Lib.hid (one_any R base A n c q2 w2.heap.size [0, 1, 2, 3, 7, 25, 100] 0 100 _ (G2.st.alloc (.cells #[.int .i64 0, .int .i64 1, .int .i64 2, .int .i64 3, .int .i64 7, .int .i64 25, .int .i64 100] 3)) (by omega) (by simp) (by simp) (Bk.new _ _ _) (by intro z hz; simp at hz; omega))
      go_wp2_with fail
      go_at_call 47
      refine HO3.out.mono ?_
      rintro e w3 ⟨z3, q3, rfl, a3, b3, hq3, hS3, ho3⟩
      have G3 := (G2.alloc (.cells #[.int .i64 0, .int .i64 1, .int .i64 2, .int .i64 3, .int .i64 7, .int .i64 25, .int .i64 100] 3)).next (by decide) hS3 ho3
      clear HO3 hS3 ho3
      clear G2
      obtain ⟨m0, m1⟩ := mul_small (a := 1 + z2) (b := z3) (A := 256) (B := 100) (by omega) (by omega) a3 b3
      have HO4 := Lib.hid (one_any R base A n c q3 w3.heap.size [0, 0, 0, 1] 0 1 _ (G3.st.alloc (.cells #[.int .i64 0, .int .i64 0, .int .i64 0, .int .i64 1] 3)) (by omega) (by simp) (by simp) (Bk.new _ _ _) (by intro z hz; simp at hz; omega))
      go_wp2_with fail
      go_at_call 47
      refine HO4.out.mono ?_
      rintro e w4 ⟨z4, q4, rfl, a4, b4, hq4, hS4, ho4⟩
      have G4 := (G3.alloc (.cells #[.int .i64 0, .int .i64 0, .int .i64 0, .int .i64 1] 3)).next (by decide) hS4 ho4
      clear HO4 hS4 ho4
      clear G3
      have HP5 := Lib.hid (pick_any R base A n c q4 16 w4 G4.st (by omega) (by omega) (by omega))
      go_wp2_with fail
      go_at_call 41
      refine HP5.out.mono ?_
      rintro e w5 ⟨z5, rfl, a5, b5, hS5, ho5⟩
      have G5 := G4.next (by decide) hS5 ho5
      clear HP5 hS5 ho5 G4
      by_cases hz : z5 = 0
      · subst hz
        have HO6 := Lib.hid (one_any R base A n c (q4 + 1) w5.heap.size [1114111, 1114110, nx + z1] 0 1314111 _ (G5.st.alloc (.cells #[.int .i64 1114111, .int .i64 1114110, .int .i64 (nx + z1)] 3)) (by omega) (by simp) (by simp) (Bk.new _ _ _) (by intro z hz; simp at hz; omega))
        go_wp2_with fail
        go_at_call 47
        refine HO6.out.mono ?_
        rintro e w6 ⟨z6, q6, rfl, a6, b6, hq6, hS6, ho6⟩
        have G6 := (G5.alloc (.cells #[.int .i64 1114111, .int .i64 1114110, .int .i64 (nx + z1)] 3)).next (by decide) hS6 ho6
        clear HO6 hS6 ho6
        clear G5
        by_cases t2 : 1114111 < z6
        · have t2b : decide (1114111 < z6) = true := by simp; omega
          go_wp2
          go_ret
          exact ⟨A', c', l, _, rfl, by omega, by omega, G6⟩
        have t2b : decide (1114111 < z6) = false := by simp; omega
        by_cases t3 : z6 < nx + z1
        · have t3b : decide (z6 < nx + z1) = true := by simp; omega
          go_wp2
          go_ret
          exact ⟨A', c', l, _, rfl, by omega, by omega, G6⟩
        have t3b : decide (z6 < nx + z1) = false := by simp; omega
        have hown := G6.1
        have HG := Lib.hid G6
        have hsz := G6.2.2.2.size
        clear G6
        go_wp2_with (at_builtin; refine wpList_append_lies _ rfl _ _ _ rfl w.heap.size 65 i0 _ 3 12 Try.underlying25 hi0 hz0 hz1 hz2 rfl (by omega) (.slice A' l.length c') l.length (cellsL .u32 l) rfl (hown.alloc _) ⟨w6.heap.size, 0, none⟩ 1 1 [.int .u32 (nx + z1), .int .u32 (z6), .int .u32 (1 + z2)] rfl rfl (World.news_of_block (cs := #[.int .u32 (nx + z1), .int .u32 (z6), .int .u32 (1 + z2)]) (t := 65) (fr := (0, 0)) (heap_alloc_new w6 _)) (by simp [Value.oneCell']) (by omega) (by unfold maxLen; omega) (by omega) (by simp; omega) (w6.heap.size + 1) (by simp) ?_; intro gg cap wa hown2 hgrow hat hlt2)
        have GN := Gen.snoc (x := ⟨nx + z1, z6, 1 + z2⟩) (HG.out.alloc _) (by decide) hB ⟨by simp; omega, by simp; omega, by simp; omega, by simp; omega, by simp; omega, by simp; omega⟩ hown2 hgrow
        clear hown hown2 hgrow hat hlt2
        go_wp2
        go_roundw
        case rel => exact ⟨k - 1, _, _, l ++ [⟨nx + z1, z6, 1 + z2⟩], _, _, by omega, by go_num, by simp, rfl, by omega, by omega, by simp; omega, by omega, GN⟩
        case measure => simp [intOf]; omega
      · have hzb : (z5 == 0) = false := by simp [hz]
        obtain ⟨hh, hhe⟩ : ∃ hh : Int, nx + z1 + (1 + z2) * z3 + z4 = hh := ⟨_, rfl⟩
        have hh0 : 0 ≤ hh := by omega
        have hh1 : hh ≤ 1314111 := by omega
        by_cases t2 : 1114111 < hh
        · have t2b : decide (1114111 < hh) = true := by simp; omega
          go_wp2
          go_ret
          exact ⟨A', c', l, _, rfl, by omega, by omega, G5⟩
        have t2b : decide (1114111 < hh) = false := by simp; omega
        by_cases t3 : hh < nx + z1
        · have t3b : decide (hh < nx + z1) = true := by simp; omega
          go_wp2
          go_ret
          exact ⟨A', c', l, _, rfl, by omega, by omega, G5⟩
        have t3b : decide (hh < nx + z1) = false := by simp; omega
        have hown := G5.1
        have HG := Lib.hid G5
        have hsz := G5.2.2.2.size
        clear G5
        go_wp2_with (at_builtin; refine wpList_append_lies _ rfl _ _ _ rfl w.heap.size 65 i0 _ 3 12 Try.underlying25 hi0 hz0 hz1 hz2 rfl (by omega) (.slice A' l.length c') l.length (cellsL .u32 l) rfl (hown.alloc _) ⟨w5.heap.size, 0, none⟩ 1 1 [.int .u32 (nx + z1), .int .u32 (hh), .int .u32 (1 + z2)] rfl rfl (World.news_of_block (cs := #[.int .u32 (nx + z1), .int .u32 (hh), .int .u32 (1 + z2)]) (t := 65) (fr := (0, 0)) (heap_alloc_new w5 _)) (by simp [Value.oneCell']) (by omega) (by unfold maxLen; omega) (by omega) (by simp; omega) (w5.heap.size + 1) (by simp) ?_; intro gg cap wa hown2 hgrow hat hlt2)
        have GN := Gen.snoc (x := ⟨nx + z1, hh, 1 + z2⟩) (HG.out.alloc _) (by decide) hB ⟨by simp; omega, by simp; omega, by simp; omega, by simp; omega, by simp; omega, by simp; omega⟩ hown2 hgrow
        clear hown hown2 hgrow hat hlt2
        go_wp2
        go_roundw
        case rel => exact ⟨k - 1, _, _, l ++ [⟨nx + z1, hh, 1 + z2⟩], _, _, by omega, by go_num, by simp, rfl, by omega, by omega, by simp; omega, by omega, GN⟩
        case measure => simp [intOf]; omega
    · have hkz : ¬ ((0 : Int) < (k : Int)) := by omega
      go_wp2
      go_ret
      exact ⟨A', c', l, _, rfl, by omega, by omega, G⟩
end Go.Proofs.Ytnhmacmpobkdoaa
