/- The thin package's table: it lays the ranges of a table into new memory, unchanged. -/
import Derived.Test.YtnhmacmpobkdoaaTabA
namespace Go.Proofs.Ytnhmacmpobkdoaa
open Go.RowKit
set_option linter.unusedVariables false
attribute [local go_sem ↓] Go.wp_at_zero Go.wp_at_succ

set_option maxHeartbeats 4000000 in
set_option maxRecDepth 100000 in
theorem table_any (A16 A32 : Option Addr) (c16 c32 : Nat) (a b : List Rg) (n : Int) (w : World) (la : a.length * 6 ≤ 140737488351232) (lb : b.length * 12 ≤ 140737488351232)
    (ra : Rd w w.heap.size .u16 65536 A16 a) (rb : Rd w w.heap.size .u32 4294967296 A32 b) :
    Calls Try.prog 44 #[.agg #[.slice A16 a.length c16, .slice A32 b.length c32, .int .i64 n]] w fun e w' =>
      ∃ g A c A' c', e = .returned (.pointer (some ⟨g, 0, none⟩)) ∧ TabP w' w.heap.size g A c A' c' ⟨a, b, n⟩ ∧ Below w.heap.size w w' := by
  obtain ⟨i0, hi0, hz0, hz1, hz2⟩ := info_parts info_u16
  obtain ⟨j0, hj0, hy0, hy1, hy2⟩ := info_parts info_u32
  go_enter Try.func44, Try.ntmps44
  go_wp2
  go_loopw [15] (fun s wr => ∃ (i : Nat) (A : Option Addr) (c : Nat), i ≤ a.length ∧ s = .int .i64 i ∧ Laid16 w A16 A32 c16 c32 a b n i A c wr)
    (fun s _ => a.length - (intOf s).toNat)
  case atStart =>
    refine ⟨0, none, 0, Nat.zero_le _, rfl, ?_, World.ownsRow_nil _ _ _ _, ?_, ?_⟩
    · have := Bk.new (w.alloc (.cells #[.slice A16 a.length c16, .slice A32 b.length c32, .int .i64 n] 27)) 78 #[.slice none 0 0, .slice none 0 0, .int .i64 n]
      simpa using this
    · exact (Bk.new w _ _).alloc _
    · exact ((Below.refl _ _).alloc (Nat.le_refl _) _).alloc (by simp) _
  case round =>
    obtain ⟨i, A, c, hi, rfl, hL⟩ := hrel
    have hsz := hL.1.lt
    have q0 : wr.cell? ⟨w.heap.size + 1, 0, none⟩ = some (.slice A i c) := by rw [hL.1.cell]; rfl
    have q1 : wr.cell? ⟨w.heap.size, 1, none⟩ = some (.slice A32 b.length c32) := by rw [hL.2.2.1.cell]; rfl
    by_cases hlt : i < a.length
    · obtain ⟨b1, o1, x, rfl, hb1, hx, c0, c1, c2, d1, d2, d3, d4, d5, d6⟩ := (ra.below hL.2.2.2).at_ hlt
      have Hx := Lib.hid hx; clear hx
      have hown := hL.2.1
      have q2 : ∀ o1 o2, ((wr.alloc o1).alloc o2).cell? ⟨w.heap.size + 1, 0, none⟩ = some (.slice A i c) := fun o1 o2 => by rw [((hL.1.alloc o1).alloc o2).cell]; rfl
      have HL := Lib.hid hL; clear hL
      go_wp2
      go_region_law ((refine step_append_lies _ (by rfl) _ _ _ (by rfl) (w.heap.size + 2) 79 i0 _ 3 6 Try.underlying75 hi0 hz0 hz1 hz2 rfl (by omega) (.slice A i c) i (cellsL .u16 (a.take i)) (by rfl) (((hown.alloc _).alloc _).drew) ⟨wr.heap.size + 1, 0, none⟩ 1 1 [.int .u16 x.lo, .int .u16 x.hi, .int .u16 x.st] (by rfl) (by rfl) (World.news_of_block (cs := #[.int .u16 x.lo, .int .u16 x.hi, .int .u16 x.st]) (t := 79) (fr := (0, 0)) (heap_new2 wr _ _)) (by simp [Value.oneCell']) (by omega) (by unfold maxLen; omega) (by omega) (by simp; omega) (wr.heap.size + 2) (by simp) ?_; intro g cap w1 hown1 hgrow hat hlt1; obtain ⟨e0, e1, e2⟩ := laid16_step HL.out hlt Hx.out hown1 hgrow))
      all_goals (
        go_wp2
        go_roundw
        case rel => exact ⟨i + 1, _, _, by omega, by go_num, e2⟩
        case measure => simp [intOf]; omega)
    · have hia : i = a.length := by omega
      subst hia
      have hL2 : Laid32 w A16 A32 c16 c32 a b n A c 0 none 0 wr := ⟨hL.1, by simpa [List.take_length] using hL.2.1, World.ownsRow_nil _ _ _ _, hL.2.2.1, hL.2.2.2⟩
      clear hL
      have HL2 := Lib.hid hL2; clear hL2
      clear q0
      go_wp2
      obtain ⟨wo, ho⟩ : ∃ wo : World, wo = wr := ⟨_, rfl⟩
      go_loopw [39] (fun s wr => ∃ (i : Nat) (A' : Option Addr) (c' : Nat), i ≤ b.length ∧ s = .int .i64 i ∧ Laid32 w A16 A32 c16 c32 a b n A c i A' c' wr)
        (fun s _ => b.length - (intOf s).toNat)
      case atStart => exact ⟨0, none, 0, Nat.zero_le _, rfl, HL2.out⟩
      case round =>
        obtain ⟨i, A', c', hi, rfl, hL⟩ := hrel
        have hsz := hL.1.lt
        have q0 : wr.cell? ⟨w.heap.size + 1, 1, none⟩ = some (.slice A' i c') := by rw [hL.1.cell]; rfl
        by_cases hlt : i < b.length
        · obtain ⟨b1, o1, x, rfl, hb1, hx, c0, c1, c2, d1, d2, d3, d4, d5, d6⟩ := (rb.below hL.2.2.2.2).at_ hlt
          have Hx := Lib.hid hx; clear hx
          have hown := hL.2.2.1
          have q2 : ∀ o1 o2, ((wr.alloc o1).alloc o2).cell? ⟨w.heap.size + 1, 1, none⟩ = some (.slice A' i c') := fun o1 o2 => by rw [((hL.1.alloc o1).alloc o2).cell]; rfl
          have HL := Lib.hid hL; clear hL
          go_wp2
          go_region_law ((refine step_append_lies _ (by rfl) _ _ _ (by rfl) (w.heap.size + 2) 81 j0 _ 3 12 Try.underlying76 hj0 hy0 hy1 hy2 rfl (by omega) (.slice A' i c') i (cellsL .u32 (b.take i)) (by rfl) (((hown.alloc _).alloc _).drew) ⟨wr.heap.size + 1, 0, none⟩ 1 1 [.int .u32 x.lo, .int .u32 x.hi, .int .u32 x.st] (by rfl) (by rfl) (World.news_of_block (cs := #[.int .u32 x.lo, .int .u32 x.hi, .int .u32 x.st]) (t := 81) (fr := (0, 0)) (heap_new2 wr _ _)) (by simp [Value.oneCell']) (by omega) (by unfold maxLen; omega) (by omega) (by simp; omega) (wr.heap.size + 2) (by simp) ?_; intro g cap w1 hown1 hgrow hat hlt1; obtain ⟨e0, e1, e2⟩ := laid32_step HL.out hlt Hx.out hown1 hgrow))
          all_goals (
            go_wp2
            go_roundw
            case rel => exact ⟨i + 1, _, _, by omega, by go_num, e2⟩
            case measure => simp [intOf]; omega)
        · have hib : i = b.length := by omega
          subst hib
          have h32 : wr.ownsRow (w.heap.size + 2) 81 3 (.slice A' b.length c') b.length (cellsL .u32 b) := by simpa [List.take_length] using hL.2.2.1
          have hP : TabP wr w.heap.size (w.heap.size + 1) A c A' c' ⟨a, b, n⟩ := ⟨by omega, hL.1, own_mono hL.2.1 (by omega), own_mono h32 (by omega), ra.wf, rb.wf⟩
          have hbel := hL.2.2.2.2
          clear h32 hL
          go_wp2
          go_ret
          exact ⟨w.heap.size + 1, A, c, A', c', rfl, hP, hbel⟩
end Go.Proofs.Ytnhmacmpobkdoaa
