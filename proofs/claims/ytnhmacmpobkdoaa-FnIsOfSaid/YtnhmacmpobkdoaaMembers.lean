/- The reference's Members: the numbers of a table, in new memory. -/
import Derived.Test.YtnhmacmpobkdoaaRns
import Derived.Test.YtnhmacmpobkdoaaSpec
namespace Go.Proofs.Ytnhmacmpobkdoaa
open Go.RowKit
set_option linter.unusedVariables false
attribute [local go_sem ↓] Go.wp_at_zero Go.wp_at_succ

theorem Runes.snocA {B : Nat} {A' A2 : Option Addr} {c' cap : Nat} {zs : List Int} {wr w1 : World} {z : Int} (h : Runes B A' c' zs wr) (hz : -2147483648 ≤ z ∧ z ≤ 2147483647)
    (hown : w1.ownsRow B 21 1 (.slice A2 (zs.length + 1) cap) (zs.length + 1) (zs.map (Value.int .i32) ++ [.int .i32 z])) : Runes B A2 cap (zs ++ [z]) w1 := by
  refine ⟨by rw [List.map_append, List.length_append]; exact hown, fun y hy => ?_⟩
  rcases List.mem_append.1 hy with hy | hy
  · exact h.2 y hy
  · rw [List.mem_singleton] at hy
    subst hy; exact hz
/-- What Members leaves: the numbers in a row of the call's own. -/
def Mems (w : World) (zs : List Int) (e : Ending) (w' : World) : Prop := ∃ (A' : Option Addr) (c' : Nat), e = .returned (.slice A' zs.length c') ∧ Runes w.heap.size A' c' zs w' ∧ Below w.heap.size w w'

set_option maxHeartbeats 4000000 in
set_option maxRecDepth 100000 in
theorem members_any (A16 A32 : Option Addr) (c16 c32 : Nat) (a b : List Rg) (n : Int) (w : World) (la : a.length ≤ 40) (lb : b.length ≤ 40)
    (ra : Rd w w.heap.size .u16 65536 A16 a) (rb : Rd w w.heap.size .u32 4294967296 A32 b) (sa : Stp a) (sb : Stp b) (hbb : ∀ x ∈ b, x.hi ≤ 1114111) :
    Calls Try.prog 31 #[.agg #[.slice A16 a.length c16, .slice A32 b.length c32, .int .i64 n]] w (Mems w (membersL a ++ membersL b)) := by
  obtain ⟨i0, hi0, hz0, hz1, hz2⟩ := info_parts info_rune
  have hT0 := Bk.new w 27 #[.slice A16 a.length c16, .slice A32 b.length c32, .int .i64 n]
  have hb0 := (Below.refl w.heap.size w).alloc (Nat.le_refl _) (.cells #[.slice A16 a.length c16, .slice A32 b.length c32, .int .i64 n] 27)
  have hR0 := Runes.start w.heap.size (w.alloc (.cells #[.slice A16 a.length c16, .slice A32 b.length c32, .int .i64 n] 27)) (by simp)
  have hT1 := hT0.alloc (.cells #[] 21)
  have hb1 := hb0.alloc (by simp) (.cells #[] 21)
  clear hT0 hb0
  go_enter Try.func31, Try.ntmps31
  go_wp2
  rw [World.size_alloc] at hR0
  go_loopw [3, 4] (fun s3 s wr => ∃ (i : Nat) (A' : Option Addr) (c' : Nat) (zs : List Int), i ≤ a.length ∧ s = .int .i64 (i : Int) ∧ s3 = .slice A' zs.length c' ∧ zs.length ≤ 0 + i * 1114112 ∧ zs ++ membersL (a.drop i) = membersL a ∧ Runes w.heap.size A' c' zs wr ∧ Bk wr w.heap.size 27 #[.slice A16 a.length c16, .slice A32 b.length c32, .int .i64 n] ∧ Below w.heap.size w wr) (fun _ s _ => a.length - (intOf s).toNat)
  case atStart => exact ⟨0, _, _, [], Nat.zero_le _, rfl, rfl, by simp, by simp, hR0, hT1, hb1⟩
  case round =>
    obtain ⟨i, A', c', zs, hi, rfl, rfl, hl, heq, hR, hT, hB⟩ := hrel
    have HE := Lib.hid heq; clear heq
    have t0 : wr.cell? ⟨w.heap.size, 0, none⟩ = some (.slice A16 a.length c16) := hT.cell 0
    have hszT := hT.lt
    have hszW := hB.size
    by_cases hlt : i < a.length
    · obtain ⟨b1, o1, x, rfl, hb1, hx, c0, c1, c2, d1, d2, d3, d4, d5, d6⟩ := (ra.below hB).at_ hlt
      obtain ⟨f1, f2⟩ := sa x (hx ▸ getD_mem hlt)
      have f3 : x.hi ≤ 1114111 := by omega
      have heq2 := HE.out
      rw [drop_cons hlt hx, membersL_cons, ← List.append_assoc] at heq2
      have HE2 := Lib.hid heq2; clear heq2 hx HE
      have hR1 := hR.alloc (.cells #[.int .u16 x.lo, .int .u16 x.hi, .int .u16 x.st] 39)
      have hT1 := hT.alloc (.cells #[.int .u16 x.lo, .int .u16 x.hi, .int .u16 x.st] 39)
      have hB1 := hB.alloc hB.size (.cells #[.int .u16 x.lo, .int .u16 x.hi, .int .u16 x.st] 39)
      have hX1 := Bk.new wr 39 #[.int .u16 x.lo, .int .u16 x.hi, .int .u16 x.st]
      have HSx := Lib.hid (⟨hR1, hT1, hB1, hX1⟩ : Runes _ _ _ _ _ ∧ Bk _ _ _ _ ∧ Below _ _ _ ∧ Bk _ _ _ _)
      clear hR1 hT1 hB1 hX1 hR hT hB
      go_wp2
      generalize hXW : wr.heap.size = XW at *
      clear hXW
      go_loopw [3, 6] (fun s3 s wq => ∃ (A' : Option Addr) (c' : Nat) (ys : List Int) (nn : Int), x.lo ≤ nn ∧ nn ≤ x.hi + x.st ∧ s = .int .i64 nn ∧ s3 = .slice A' ys.length c' ∧ (ys.length : Int) ≤ zs.length + (nn - x.lo) ∧ (ys.length : Int) ≤ zs.length + (x.hi + 1 - x.lo) ∧ (ys ++ mems x.hi x.st nn) ++ membersL (a.drop (i + 1)) = membersL a ∧ Runes w.heap.size A' c' ys wq ∧ Bk wq w.heap.size 27 #[.slice (some ⟨b1, o1, none⟩) a.length c16, .slice A32 b.length c32, .int .i64 n] ∧ Below w.heap.size w wq ∧ Bk wq XW 39 #[.int .u16 x.lo, .int .u16 x.hi, .int .u16 x.st]) (fun _ s _ => (x.hi + 1 - intOf s).toNat)
      case atStart => exact ⟨_, _, zs, x.lo, Int.le_refl _, by omega, rfl, rfl, by omega, by omega, HE2.out, HSx.out.1, HSx.out.2.1, HSx.out.2.2.1, HSx.out.2.2.2⟩
      case round =>
        obtain ⟨A', c', ys, nn, n1, n2, rfl, rfl, hyl, hyl2, heq, hR, hT, hB, hX⟩ := hrel
        have HE := Lib.hid heq; clear heq HSx HE2
        have x0 := hX.cell 0
        have x1 := hX.cell 1
        have x2 := hX.cell 2
        simp only [List.getElem?_toArray, List.getElem?_cons_zero, List.getElem?_cons_succ] at x0 x1 x2
        have hszX := hX.lt
        have hszT2 := hT.lt
        have hszW2 := hB.size
        by_cases hn : nn ≤ x.hi
        · have heq2 := HE.out
          rw [mems_le hn f1] at heq2
          have heq3 : ((ys ++ [nn]) ++ mems x.hi x.st (nn + x.st)) ++ membersL (a.drop (i + 1)) = membersL a := by simpa using heq2
          have HE3 := Lib.hid heq3; clear heq2 heq3 HE
          have hown := hR.1
          have HR := Lib.hid hR; have HT := Lib.hid hT; have HB := Lib.hid hB; have HX := Lib.hid hX; clear hR hT hB hX
          go_wp2_with (at_builtin; refine wpList_append_all _ rfl _ _ _ rfl w.heap.size 21 i0 _ 1 4 Try.underlying41 hi0 hz0 hz1 hz2 rfl (by omega) (.slice A' ys.length c') ys.length (ys.map (Value.int .i32)) rfl (hown.alloc _) (some ⟨wr.heap.size, 0, none⟩) 1 1 [.int .i32 nn] rfl rfl (fun h => by cases h) (news_one (cs := #[.int .i32 nn]) (t := 21) (heap_alloc_new wr _)) (by simp [Value.oneCell']) (by unfold maxLen; omega) (by omega) (by simp; omega) ?_; intro A2 cap w1 hown1 hgrow hat; have hR2 := HR.out.snocA (z := nn) (by omega) hown1; have hX2 := (HX.out.alloc (.cells #[.int .i32 nn] 21)).grown hgrow (own_bk (hown.alloc (.cells #[.int .i32 nn] 21)) (HX.out.alloc (.cells #[.int .i32 nn] 21)) (by decide)); have hT2 := (HT.out.alloc (.cells #[.int .i32 nn] 21)).grown hgrow (own_bk (hown.alloc (.cells #[.int .i32 nn] 21)) (HT.out.alloc (.cells #[.int .i32 nn] 21)) (by decide)); have hB2 := (HB.out.alloc HB.out.size (.cells #[.int .i32 nn] 21)).grown hgrow (by simp; omega) (own_ge (hown.alloc (.cells #[.int .i32 nn] 21))); have x0 := hX2.cell 0; have x1 := hX2.cell 1; have x2 := hX2.cell 2; simp only [List.getElem?_toArray, List.getElem?_cons_zero, List.getElem?_cons_succ] at x0 x1 x2; have HS2 := Lib.hid (⟨hR2, hT2, hB2, hX2⟩ : Runes _ _ _ _ _ ∧ Bk _ _ _ _ ∧ Below _ _ _ ∧ Bk _ _ _ _); clear hR2 hT2 hB2 hX2 hgrow hat hown1)
          go_roundw
          case rel => exact ⟨A2, cap, ys ++ [nn], nn + x.st, by omega, by omega, by go_num, by simp, by simp; omega, by simp; omega, HE3.out, HS2.out.1, HS2.out.2.1, HS2.out.2.2.1, HS2.out.2.2.2⟩
          case measure => simp [intOf]; omega
        · have heq2 := HE.out
          rw [mems_gt (by omega), List.append_nil] at heq2
          have HE3 := Lib.hid heq2; clear heq2 HE
          have HR := Lib.hid hR; have HT := Lib.hid hT; have HB := Lib.hid hB; clear hR hT hB hX
          go_wp2
          go_roundw
          case rel => exact ⟨i + 1, A', c', ys, by omega, by go_num, rfl, by omega, HE3.out, HR.out, HT.out, HB.out⟩
          case measure => simp [intOf]; omega
    · have hlz : ¬ ((i : Int) < (a.length : Int)) := by omega
      have heq2 := HE.out
      rw [show i = a.length from by omega, List.drop_length] at heq2
      have heq3 : zs = membersL a := by simpa [membersL] using heq2
      have HZ16 := Lib.hid heq3; clear heq2 heq3 HE
      have hl2 : zs.length ≤ 44564480 := by omega
      clear hl
      have HR0 := Lib.hid hR; have HT0 := Lib.hid hT; have HB0 := Lib.hid hB; clear hR hT hB
      go_wp2
      clear t0 hszT hszW hlz hlt hi
      go_loopw [3, 7] (fun s3 s wr => ∃ (i : Nat) (A' : Option Addr) (c' : Nat) (zs : List Int), i ≤ b.length ∧ s = .int .i64 (i : Int) ∧ s3 = .slice A' zs.length c' ∧ zs.length ≤ 44564480 + i * 1114112 ∧ zs ++ membersL (b.drop i) = membersL a ++ membersL b ∧ Runes w.heap.size A' c' zs wr ∧ Bk wr w.heap.size 27 #[.slice A16 a.length c16, .slice A32 b.length c32, .int .i64 n] ∧ Below w.heap.size w wr) (fun _ s _ => b.length - (intOf s).toNat)
      case atStart => exact ⟨0, _, _, zs, Nat.zero_le _, rfl, rfl, by omega, by rw [HZ16.out]; rfl, HR0.out, HT0.out, HB0.out⟩
      case round =>
        obtain ⟨i, A', c', zs, hi, rfl, rfl, hl, heq, hR, hT, hB⟩ := hrel
        have HE := Lib.hid heq; clear heq
        have t0 : wr.cell? ⟨w.heap.size, 1, none⟩ = some (.slice A32 b.length c32) := hT.cell 1
        have hszT := hT.lt
        have hszW := hB.size
        by_cases hlt : i < b.length
        · obtain ⟨b1, o1, x, rfl, hb1, hx, c0, c1, c2, d1, d2, d3, d4, d5, d6⟩ := (rb.below hB).at_ hlt
          obtain ⟨f1, f2⟩ := sb x (hx ▸ getD_mem hlt)
          have f3 : x.hi ≤ 1114111 := hbb x (hx ▸ getD_mem hlt)
          have heq2 := HE.out
          rw [drop_cons hlt hx, membersL_cons, ← List.append_assoc] at heq2
          have HE2 := Lib.hid heq2; clear heq2 hx HE
          have hR1 := hR.alloc (.cells #[.int .u32 x.lo, .int .u32 x.hi, .int .u32 x.st] 65)
          have hT1 := hT.alloc (.cells #[.int .u32 x.lo, .int .u32 x.hi, .int .u32 x.st] 65)
          have hB1 := hB.alloc hB.size (.cells #[.int .u32 x.lo, .int .u32 x.hi, .int .u32 x.st] 65)
          have hX1 := Bk.new wr 65 #[.int .u32 x.lo, .int .u32 x.hi, .int .u32 x.st]
          have HSx := Lib.hid (⟨hR1, hT1, hB1, hX1⟩ : Runes _ _ _ _ _ ∧ Bk _ _ _ _ ∧ Below _ _ _ ∧ Bk _ _ _ _)
          clear hR1 hT1 hB1 hX1 hR hT hB
          go_wp2
          generalize hXW : wr.heap.size = XW at *
          clear hXW
          go_loopw [3, 9] (fun s3 s wq => ∃ (A' : Option Addr) (c' : Nat) (ys : List Int) (nn : Int), x.lo ≤ nn ∧ nn ≤ x.hi + x.st ∧ s = .int .i64 nn ∧ s3 = .slice A' ys.length c' ∧ (ys.length : Int) ≤ zs.length + (nn - x.lo) ∧ (ys.length : Int) ≤ zs.length + (x.hi + 1 - x.lo) ∧ (ys ++ mems x.hi x.st nn) ++ membersL (b.drop (i + 1)) = membersL a ++ membersL b ∧ Runes w.heap.size A' c' ys wq ∧ Bk wq w.heap.size 27 #[.slice A16 a.length c16, .slice (some ⟨b1, o1, none⟩) b.length c32, .int .i64 n] ∧ Below w.heap.size w wq ∧ Bk wq XW 65 #[.int .u32 x.lo, .int .u32 x.hi, .int .u32 x.st]) (fun _ s _ => (x.hi + 1 - intOf s).toNat)
          case atStart => exact ⟨_, _, zs, x.lo, Int.le_refl _, by omega, rfl, rfl, by omega, by omega, HE2.out, HSx.out.1, HSx.out.2.1, HSx.out.2.2.1, HSx.out.2.2.2⟩
          case round =>
            obtain ⟨A', c', ys, nn, n1, n2, rfl, rfl, hyl, hyl2, heq, hR, hT, hB, hX⟩ := hrel
            have HE := Lib.hid heq; clear heq HSx HE2
            have x0 := hX.cell 0
            have x1 := hX.cell 1
            have x2 := hX.cell 2
            simp only [List.getElem?_toArray, List.getElem?_cons_zero, List.getElem?_cons_succ] at x0 x1 x2
            have hszX := hX.lt
            have hszT2 := hT.lt
            have hszW2 := hB.size
            by_cases hn : nn ≤ x.hi
            · have heq2 := HE.out
              rw [mems_le hn f1] at heq2
              have heq3 : ((ys ++ [nn]) ++ mems x.hi x.st (nn + x.st)) ++ membersL (b.drop (i + 1)) = membersL a ++ membersL b := by simpa using heq2
              have HE3 := Lib.hid heq3; clear heq2 heq3 HE
              have hown := hR.1
              have HR := Lib.hid hR; have HT := Lib.hid hT; have HB := Lib.hid hB; have HX := Lib.hid hX; clear hR hT hB hX
              go_wp2_with (at_builtin; refine wpList_append_all _ rfl _ _ _ rfl w.heap.size 21 i0 _ 1 4 Try.underlying41 hi0 hz0 hz1 hz2 rfl (by omega) (.slice A' ys.length c') ys.length (ys.map (Value.int .i32)) rfl (hown.alloc _) (some ⟨wr.heap.size, 0, none⟩) 1 1 [.int .i32 nn] rfl rfl (fun h => by cases h) (news_one (cs := #[.int .i32 nn]) (t := 21) (heap_alloc_new wr _)) (by simp [Value.oneCell']) (by unfold maxLen; omega) (by omega) (by simp; omega) ?_; intro A2 cap w1 hown1 hgrow hat; have hR2 := HR.out.snocA (z := nn) (by omega) hown1; have hX2 := (HX.out.alloc (.cells #[.int .i32 nn] 21)).grown hgrow (own_bk (hown.alloc (.cells #[.int .i32 nn] 21)) (HX.out.alloc (.cells #[.int .i32 nn] 21)) (by decide)); have hT2 := (HT.out.alloc (.cells #[.int .i32 nn] 21)).grown hgrow (own_bk (hown.alloc (.cells #[.int .i32 nn] 21)) (HT.out.alloc (.cells #[.int .i32 nn] 21)) (by decide)); have hB2 := (HB.out.alloc HB.out.size (.cells #[.int .i32 nn] 21)).grown hgrow (by simp; omega) (own_ge (hown.alloc (.cells #[.int .i32 nn] 21))); have x0 := hX2.cell 0; have x1 := hX2.cell 1; have x2 := hX2.cell 2; simp only [List.getElem?_toArray, List.getElem?_cons_zero, List.getElem?_cons_succ] at x0 x1 x2; have HS2 := Lib.hid (⟨hR2, hT2, hB2, hX2⟩ : Runes _ _ _ _ _ ∧ Bk _ _ _ _ ∧ Below _ _ _ ∧ Bk _ _ _ _); clear hR2 hT2 hB2 hX2 hgrow hat hown1)
              go_roundw
              case rel => exact ⟨A2, cap, ys ++ [nn], nn + x.st, by omega, by omega, by go_num, by simp, by simp; omega, by simp; omega, HE3.out, HS2.out.1, HS2.out.2.1, HS2.out.2.2.1, HS2.out.2.2.2⟩
              case measure => simp [intOf]; omega
            · have heq2 := HE.out
              rw [mems_gt (by omega), List.append_nil] at heq2
              have HE3 := Lib.hid heq2; clear heq2 HE
              have HR := Lib.hid hR; have HT := Lib.hid hT; have HB := Lib.hid hB; clear hR hT hB hX
              go_wp2
              go_roundw
              case rel => exact ⟨i + 1, A', c', ys, by omega, by go_num, rfl, by omega, HE3.out, HR.out, HT.out, HB.out⟩
              case measure => simp [intOf]; omega
        · have hlz : ¬ ((i : Int) < (b.length : Int)) := by omega
          have heq2 := HE.out
          rw [show i = b.length from by omega, List.drop_length] at heq2
          have heq3 : zs = membersL a ++ membersL b := by simpa [membersL] using heq2
          have HZ32 := Lib.hid heq3; clear heq2 heq3 HE
          have HR := Lib.hid hR; have HB := Lib.hid hB; clear hR hT hB
          go_wp2
          go_ret
          obtain rfl := HZ32.out
          exact ⟨A', c', rfl, HR.out, HB.out⟩
end Go.Proofs.Ytnhmacmpobkdoaa
