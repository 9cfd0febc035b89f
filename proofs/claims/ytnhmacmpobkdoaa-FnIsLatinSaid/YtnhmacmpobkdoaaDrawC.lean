/- The generators' ranges16 and ranges32: lists of ranges in new memory; nothing else is changed but the reader. -/
import Derived.Test.YtnhmacmpobkdoaaDrawB
import Derived.KernelRfl
namespace Go.Proofs.Ytnhmacmpobkdoaa
open Go.RowKit
set_option linter.unusedVariables false

/-- Ranges that have been drawn so far, in a row of the call's own. -/
def Gen (w : World) (R base : Nat) (A : Option Addr) (n c : Nat) (T : TypeId) (k : IntKind) (M : Int) (q : Nat) (A' : Option Addr) (c' : Nat) (l : List Rg) (wr : World) : Prop :=
  wr.ownsRow w.heap.size T 3 (.slice A' l.length c') l.length (cellsL k l) ∧ Wf M l ∧ St wr R base A n c q ∧ Only R w wr
section
variable {w : World} {R base : Nat} {A : Option Addr} {n c : Nat} {T : TypeId} {k : IntKind} {M : Int} {q q' : Nat} {A' : Option Addr} {c' : Nat} {l : List Rg} {wr w1 : World}
theorem Gen.st (h : Gen w R base A n c T k M q A' c' l wr) : St wr R base A n c q := h.2.2.1
theorem Gen.alloc (h : Gen w R base A n c T k M q A' c' l wr) (o : Obj) : Gen w R base A n c T k M q A' c' l (wr.alloc o) := ⟨h.1.alloc o, h.2.1, h.2.2.1.alloc o, h.2.2.2.alloc o⟩
theorem Gen.next (h : Gen w R base A n c T k M q A' c' l wr) (hT : T ≠ 59) (hS : St w1 R base A n c q') (ho : Only R wr w1) : Gen w R base A n c T k M q' A' c' l w1 :=
  ⟨own_only h.1 h.2.2.1.bk hT ho, h.2.1, hS, h.2.2.2.trans ho⟩
theorem Gen.snoc {x : Rg} {g cap : Nat} (h : Gen w R base A n c T k M q A' c' l wr) (hT : T ≠ 59) (hB : base ≤ w.heap.size) (hx : 0 ≤ x.lo ∧ x.lo < M ∧ 0 ≤ x.hi ∧ x.hi < M ∧ 0 ≤ x.st ∧ x.st < M)
    (hown : w1.ownsRow w.heap.size T 3 (.slice (some ⟨g, 0, none⟩) (l.length + 1) cap) (l.length + 1) (cellsL k l ++ [.int k x.lo, .int k x.hi, .int k x.st])) (hgrow : wr.grownBy w1 (Value.slice A' l.length c').ownBlock) :
    Gen w R base A n c T k M q (some ⟨g, 0, none⟩) cap (l ++ [x]) w1 := by
  refine ⟨by rw [cellsL_snoc, List.length_append]; exact hown, fun y hy => ?_, h.2.2.1.grown hgrow (own_bk h.1 h.2.2.1.bk hT) (fun j hj => by have := own_ge h.1 j hj; omega), h.2.2.2.grown hgrow (own_ge h.1)⟩
  rcases List.mem_append.1 hy with hy | hy
  · exact h.2.1 y hy
  · rw [List.mem_singleton] at hy
    subst hy; exact hx
end
theorem Gen.start (w : World) {R base : Nat} {A : Option Addr} {n c : Nat} {T : TypeId} (k : IntKind) (M : Int) {q : Nat} (hS : St w R base A n c q) : Gen w R base A n c T k M q (some ⟨w.heap.size, 0, none⟩) 0 [] (w.alloc (.cells #[] T)) :=
  ⟨⟨rfl, .inr ⟨w.heap.size, 0, #[], rfl, Nat.le_refl _, heap_alloc_new _ _, Nat.le_refl _, by unfold maxLen; omega, rfl, rfl⟩⟩, (fun x hx => by cases hx), hS.alloc _, (Only.refl _ _).alloc _⟩
theorem mul_small {a b A B : Int} (h0 : 0 ≤ a) (h1 : a ≤ A) (h2 : 0 ≤ b) (h3 : b ≤ B) : 0 ≤ a * b ∧ a * b ≤ A * B :=
  ⟨Int.mul_nonneg h0 h2, Int.mul_le_mul h1 h3 h2 (by omega)⟩

/-- What ranges16 and ranges32 leave: at most m ranges, and the reader has gone on by at most d. -/
def Ranged (w : World) (R base : Nat) (A : Option Addr) (n c q d m : Nat) (T : TypeId) (k : IntKind) (M : Int) (e : Ending) (w' : World) : Prop :=
  ∃ (A' : Option Addr) (c' : Nat) (l : List Rg) (q' : Nat), e = .returned (.slice A' l.length c') ∧ l.length ≤ m ∧ q' ≤ q + d ∧ Gen w R base A n c T k M q' A' c' l w'

theorem info_r16 : (Try.prog.info? 39).map (fun i => (i.zero, i.size, i.bytes)) = some (some (.agg #[.int .u16 0, .int .u16 0, .int .u16 0]), 3, 6) := by kernel_rfl
theorem info_r32 : (Try.prog.info? 65).map (fun i => (i.zero, i.size, i.bytes)) = some (some (.agg #[.int .u32 0, .int .u32 0, .int .u32 0]), 3, 12) := by kernel_rfl

set_option maxHeartbeats 4000000 in
set_option maxRecDepth 100000 in
theorem ranges16_any (R base : Nat) (A : Option Addr) (n c q N : Nat) (w : World) (hS : St w R base A n c q) (hq : q ≤ 1099511600000) (hN : N ≤ 40) :
    Calls Try.prog 50 #[.pointer (some ⟨R, 0, none⟩), .int .i64 (N : Int)] w (Ranged w R base A n c q (1 + 9 * N) N 39 .u16 65536) := by
  obtain ⟨i0, hi0, hz0, hz1, hz2⟩ := info_parts info_r16
  have hB : base ≤ w.heap.size := by have := hS.lt; have := hS.1; omega
  have G0 := Gen.start (T := 39) w .u16 65536 hS
  clear hS
  go_enter Try.func50, Try.ntmps50
  have HO0 := Lib.hid (one_any R base A n c q (w.heap.size + 1) [0, 1, 65, 97, 200, 250, 256, 768, 65280] 0 65536 _ (G0.st.alloc (.cells #[.int .i64 0, .int .i64 1, .int .i64 65, .int .i64 97, .int .i64 200, .int .i64 250, .int .i64 256, .int .i64 768, .int .i64 65280] 3)) (by omega) (by simp) (by simp) (by have := Bk.new (w.alloc (.cells #[] 39)) 3 #[.int .i64 0, .int .i64 1, .int .i64 65, .int .i64 97, .int .i64 200, .int .i64 250, .int .i64 256, .int .i64 768, .int .i64 65280]; rw [World.size_alloc] at this; exact this) (by intro z hz; simp at hz; omega))
  go_wp2_with fail
  go_at_call 47
  refine HO0.out.mono ?_
  rintro e w0 ⟨z0, q0, rfl, a0, b0, hq0, hS0, ho0⟩
  have G1 := (G0.alloc (.cells #[.int .i64 0, .int .i64 1, .int .i64 65, .int .i64 97, .int .i64 200, .int .i64 250, .int .i64 256, .int .i64 768, .int .i64 65280] 3)).next (by decide) hS0 ho0
  clear HO0 hS0 ho0 G0
  go_wp2_with fail
  go_loopw [1, 5, 6] (fun s1 s5 s6 wr => ∃ (k : Nat) (A' : Option Addr) (c' : Nat) (l : List Rg) (q' : Nat) (nx : Int), k ≤ N ∧ s1 = .int .i64 (k : Int) ∧ s5 = .slice A' l.length c' ∧ s6 = .int .i64 nx ∧ 0 ≤ nx ∧ nx ≤ 65536 ∧ l.length + k ≤ N ∧ q' + 9 * k ≤ q + 1 + 9 * N ∧ Gen w R base A n c 39 .u16 65536 q' A' c' l wr) (fun s1 _ _ _ => (intOf s1).toNat)
  case atStart => exact ⟨N, some ⟨w.heap.size, 0, none⟩, 0, [], q0, z0, Nat.le_refl _, rfl, rfl, rfl, a0, b0, by simp, by omega, G1⟩
  case round =>
    clear G1
    obtain ⟨k, A', c', l, q', nx, hk, rfl, rfl, rfl, hn0, hn1, hlk, hqk, G⟩ := hrel
    by_cases hk0 : 0 < k
    · have hkz : (0 : Int) < (k : Int) := by omega
      have HP1 := Lib.hid (span_any R base A n c q' wr G.st (by omega))
      go_wp2_with fail
      go_at_call 54
      refine HP1.out.mono ?_
      rintro e w1 ⟨z1, q1, rfl, a1, b1, hq1, hS1, ho1⟩
      have G1 := G.next (by decide) hS1 ho1
      clear HP1 hS1 ho1 G
      have HO2 := Lib.hid (one_any R base A n c q1 w1.heap.size [0, 0, 0, 1, 2, 6, 255] 0 255 _ (G1.st.alloc (.cells #[.int .i64 0, .int .i64 0, .int .i64 0, .int .i64 1, .int .i64 2, .int .i64 6, .int .i64 255] 3)) (by omega) (by simp) (by simp) (Bk.new _ _ _) (by intro z hz; simp at hz; omega))
      go_wp2_with fail
      go_at_call 47
      refine HO2.out.mono ?_
      rintro e w2 ⟨z2, q2, rfl, a2, b2, hq2, hS2, ho2⟩
      have G2 := (G1.alloc (.cells #[.int .i64 0, .int .i64 0, .int .i64 0, .int .i64 1, .int .i64 2, .int .i64 6, .int .i64 255] 3)).next (by decide) hS2 ho2
      clear HO2 hS2 ho2
      clear G1
      have HO3 := Lib.hid (one_any R base A n c q2 w2.heap.size [0, 1, 2, 3, 7, 25, 100] 0 100 _ (G2.st.alloc (.cells #[.int .i64 0, .int .i64 1, .int .i64 2, .int .i64 3, .int .i64 7, .int .i64 25, .int .i64 100] 3)) (by omega) (by simp) (by simp) (Bk.new _ _ _) (by intro z hz; simp at hz; omega))
      go_wp2_with fail
      go_at_call 47
      refine HO3.out.mono ?_
      rintro e w3 ⟨z3, q3, rfl, a3, b3, hq3, hS3, ho3⟩
      have G3 := (G2.alloc (.cells #[.int .i64 0, .int .i64 1, .int .i64 2, .int .i64 3, .int .i64 7, .int .i64 25, .int .i64 100] 3)).next (by decide) hS3 ho3
      clear HO3 hS3 ho3
      clear G2
      obtain ⟨m0, m1⟩ := mul_small (a := 1 + z2) (b := z3) (A := 256) (B := 100) (by omega) (by omega) a3 b3
      have HO4 := Lib.hid (one_any R base A n c q3 w3.heap.size [0, 0, 0, 1] 0 1 _ (G3.st.alloc (.cells #[.int .i64 0, .int .i64 0, .int .i64 0, .int .i64 1] 3)) (by omega) (by simp) (by simp) (Bk.new _ _ _) (by intro z hz; simp at hz; omega))
      go_wp2_with fail
      go_at_call 47
      refine HO4.out.mono ?_
      rintro e w4 ⟨z4, q4, rfl, a4, b4, hq4, hS4, ho4⟩
      have G4 := (G3.alloc (.cells #[.int .i64 0, .int .i64 0, .int .i64 0, .int .i64 1] 3)).next (by decide) hS4 ho4
      clear HO4 hS4 ho4
      clear G3
      have HP5 := Lib.hid (pick_any R base A n c q4 16 w4 G4.st (by omega) (by omega) (by omega))
      go_wp2_with fail
      go_at_call 41
      refine HP5.out.mono ?_
      rintro e w5 ⟨z5, rfl, a5, b5, hS5, ho5⟩
      have G5 := G4.next (by decide) hS5 ho5
      clear HP5 hS5 ho5 G4
      by_cases hz : z5 = 0
      · subst hz
        have HO6 := Lib.hid (one_any R base A n c (q4 + 1) w5.heap.size [255, 256, 65535, nx + z1] 0 265535 _ (G5.st.alloc (.cells #[.int .i64 255, .int .i64 256, .int .i64 65535, .int .i64 (nx + z1)] 3)) (by omega) (by simp) (by simp) (Bk.new _ _ _) (by intro z hz; simp at hz; omega))
        go_wp2_with fail
        go_at_call 47
        refine HO6.out.mono ?_
        rintro e w6 ⟨z6, q6, rfl, a6, b6, hq6, hS6, ho6⟩
        have G6 := (G5.alloc (.cells #[.int .i64 255, .int .i64 256, .int .i64 65535, .int .i64 (nx + z1)] 3)).next (by decide) hS6 ho6
        clear HO6 hS6 ho6
        clear G5
        by_cases t1 : 65535 < nx + z1
        · have t1b : decide (65535 < nx + z1) = true := by simp; omega
          go_wp2
          go_ret
          exact ⟨A', c', l, _, rfl, by omega, by omega, G6⟩
        have t1b : decide (65535 < nx + z1) = false := by simp; omega
        by_cases t2 : 65535 < z6
        · have t2b : decide (65535 < z6) = true := by simp; omega
          go_wp2
          go_ret
          exact ⟨A', c', l, _, rfl, by omega, by omega, G6⟩
        have t2b : decide (65535 < z6) = false := by simp; omega
        by_cases t3 : z6 < nx + z1
        · have t3b : decide (z6 < nx + z1) = true := by simp; omega
          go_wp2
          go_ret
          exact ⟨A', c', l, _, rfl, by omega, by omega, G6⟩
        have t3b : decide (z6 < nx + z1) = false := by simp; omega
        have hown := G6.1
        have HG := Lib.hid G6
        have hsz := G6.2.2.2.size
        clear G6
        go_wp2_with (at_builtin; refine wpList_append_lies _ rfl _ _ _ rfl w.heap.size 39 i0 _ 3 6 Try.underlying24 hi0 hz0 hz1 hz2 rfl (by omega) (.slice A' l.length c') l.length (cellsL .u16 l) rfl (hown.alloc _) ⟨w6.heap.size, 0, none⟩ 1 1 [.int .u16 (nx + z1), .int .u16 (z6), .int .u16 (1 + z2)] rfl rfl (World.news_of_block (cs := #[.int .u16 (nx + z1), .int .u16 (z6), .int .u16 (1 + z2)]) (t := 39) (fr := (0, 0)) (heap_alloc_new w6 _)) (by simp [Value.oneCell']) (by omega) (by unfold maxLen; omega) (by omega) (by simp; omega) (w6.heap.size + 1) (by simp) ?_; intro gg cap wa hown2 hgrow hat hlt2)
        have GN := Gen.snoc (x := ⟨nx + z1, z6, 1 + z2⟩) (HG.out.alloc _) (by decide) hB ⟨by simp; omega, by simp; omega, by simp; omega, by simp; omega, by simp; omega, by simp; omega⟩ hown2 hgrow
        clear hown hown2 hgrow hat hlt2
        go_wp2
        go_roundw
        case rel => exact ⟨k - 1, _, _, l ++ [⟨nx + z1, z6, 1 + z2⟩], _, _, by omega, by go_num, by simp, rfl, by omega, by omega, by simp; omega, by omega, GN⟩
        case measure => simp [intOf]; omega
      · have hzb : (z5 == 0) = false := by simp [hz]
        obtain ⟨hh, hhe⟩ : ∃ hh : Int, nx + z1 + (1 + z2) * z3 + z4 = hh := ⟨_, rfl⟩
        have hh0 : 0 ≤ hh := by omega
        have hh1 : hh ≤ 265535 := by omega
        by_cases t1 : 65535 < nx + z1
        · have t1b : decide (65535 < nx + z1) = true := by simp; omega
          go_wp2
          go_ret
          exact ⟨A', c', l, _, rfl, by omega, by omega, G5⟩
        have t1b : decide (65535 < nx + z1) = false := by simp; omega
        by_cases t2 : 65535 < hh
        · have t2b : decide (65535 < hh) = true := by simp; omega
          go_wp2
          go_ret
          exact ⟨A', c', l, _, rfl, by omega, by omega, G5⟩
        have t2b : decide (65535 < hh) = false := by simp; omega
        by_cases t3 : hh < nx + z1
        · have t3b : decide (hh < nx + z1) = true := by simp; omega
          go_wp2
          go_ret
          exact ⟨A', c', l, _, rfl, by omega, by omega, G5⟩
        have t3b : decide (hh < nx + z1) = false := by simp; omega
        have hown := G5.1
        have HG := Lib.hid G5
        have hsz := G5.2.2.2.size
        clear G5
        go_wp2_with (at_builtin; refine wpList_append_lies _ rfl _ _ _ rfl w.heap.size 39 i0 _ 3 6 Try.underlying24 hi0 hz0 hz1 hz2 rfl (by omega) (.slice A' l.length c') l.length (cellsL .u16 l) rfl (hown.alloc _) ⟨w5.heap.size, 0, none⟩ 1 1 [.int .u16 (nx + z1), .int .u16 (hh), .int .u16 (1 + z2)] rfl rfl (World.news_of_block (cs := #[.int .u16 (nx + z1), .int .u16 (hh), .int .u16 (1 + z2)]) (t := 39) (fr := (0, 0)) (heap_alloc_new w5 _)) (by simp [Value.oneCell']) (by omega) (by unfold maxLen; omega) (by omega) (by simp; omega) (w5.heap.size + 1) (by simp) ?_; intro gg cap wa hown2 hgrow hat hlt2)
        have GN := Gen.snoc (x := ⟨nx + z1, hh, 1 + z2⟩) (HG.out.alloc _) (by decide) hB ⟨by simp; omega, by simp; omega, by simp; omega, by simp; omega, by simp; omega, by simp; omega⟩ hown2 hgrow
        clear hown hown2 hgrow hat hlt2
        go_wp2
        go_roundw
        case rel => exact ⟨k - 1, _, _, l ++ [⟨nx + z1, hh, 1 + z2⟩], _, _, by omega, by go_num, by simp, rfl, by omega, by omega, by simp; omega, by omega, GN⟩
        case measure => simp [intOf]; omega
    · have hkz : ¬ ((0 : Int) < (k : Int)) := by omega
      go_wp2
      go_ret
      exact ⟨A', c', l, _, rfl, by omega, by omega, G⟩
end Go.Proofs.Ytnhmacmpobkdoaa
