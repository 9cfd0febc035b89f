/- The reference's Sorted: the code points of a list, ascending, each once, in new memory. -/
import Derived.Test.YtnhmacmpobkdoaaInsB
import Derived.Test.YtnhmacmpobkdoaaLawV
import Derived.Deep.RegionHeld3
import Derived.Deep.DrawnRows
namespace Go.Proofs.Ytnhmacmpobkdoaa
open Go.RowKit
set_option linter.unusedVariables false
attribute [local go_sem ↓] Go.wp_at_zero Go.wp_at_succ

/-- What Sorted leaves. -/
def SortedP (w : World) (zs : List Int) (e : Ending) (w' : World) : Prop := ∃ (A' : Option Addr) (c' : Nat) (os : List Int), e = .returned (.slice A' os.length c') ∧ Std zs zs.length os ∧ Runes w.heap.size A' c' os w' ∧ Below w.heap.size w w'
set_option maxHeartbeats 8000000 in
set_option maxRecDepth 100000 in
theorem sorted_any (A0 : Option Addr) (c0 : Nat) (zs : List Int) (w : World) (hl0 : zs.length ≤ 12) (hr : Rn w w.heap.size A0 zs) (h32 : I32 zs) :
    Calls Try.prog 28 #[.slice A0 zs.length c0] w (SortedP w zs) := by
  obtain ⟨i0, hi0, hz0, hz1, hz2⟩ := info_parts info_rune
  have hR0 := Runes.start w.heap.size w (Nat.le_refl _)
  have hb0 := (Below.refl w.heap.size w).alloc (Nat.le_refl _) (.cells #[] 21)
  go_enter Try.func28, Try.ntmps28
  go_wp2
  go_loopw [3, 4] (fun s3 s wr => ∃ (i g co : Nat) (os : List Int), i ≤ zs.length ∧ s = .int .i64 (i : Int) ∧ s3 = .slice (some ⟨g, 0, none⟩) os.length co ∧ Std zs i os ∧ Runes w.heap.size (some ⟨g, 0, none⟩) co os wr ∧ Below w.heap.size w wr) (fun _ s _ => zs.length - (intOf s).toNat)
  case atStart => exact ⟨0, w.heap.size, 0, [], Nat.zero_le _, rfl, rfl, Std.start zs, hR0, hb0⟩
  case round =>
    clear hR0 hb0
    obtain ⟨i, g, co, os, hi, rfl, rfl, hS, hR, hB⟩ := hrel
    have hol := hS.2.2
    have HS := Lib.hid hS; clear hS
    obtain ⟨co0, co1⟩ := own_cap hR.1
    unfold maxLen at co1
    by_cases hlt : i < zs.length
    · obtain ⟨b1, o1, y, rfl, hb1, hy, cy⟩ := (hr.below hB).at_ hlt
      obtain ⟨d1, d2⟩ := h32 y (List.mem_of_getElem? hy)
      have HY := Lib.hid hy; clear hy
      have iz : (i : Int) < (zs.length : Int) := by omega
      by_cases hneg : y < 0
      · have hnb : decide (y < 0) = true := by simp; omega
        have HS2 := Lib.hid (HS.out.skip HY.out (.inl (.inl hneg))); have HR := Lib.hid hR; have HB := Lib.hid hB; clear hR hB
        go_wp2
        go_roundw
        case rel => exact ⟨i + 1, g, co, os, by omega, by go_num, rfl, HS2.out, HR.out, HB.out⟩
        case measure => simp [intOf]; omega
      have hnb : decide (y < 0) = false := by simp; omega
      by_cases hbig : 1114111 < y
      · have hbb : decide (1114111 < y) = true := by simp; omega
        have HS2 := Lib.hid (HS.out.skip HY.out (.inl (.inr hbig))); have HR := Lib.hid hR; have HB := Lib.hid hB; clear hR hB
        go_wp2
        go_roundw
        case rel => exact ⟨i + 1, g, co, os, by omega, by go_num, rfl, HS2.out, HR.out, HB.out⟩
        case measure => simp [intOf]; omega
      have hbb : decide (1114111 < y) = false := by simp; omega
      have HR := Lib.hid hR; have HB := Lib.hid hB; have hszb := hB.size; clear hR hB
      go_wp2
      go_loopw [5] (fun s wq => ∃ (k : Nat), k ≤ os.length ∧ s = .int .i64 (k : Int) ∧ Pre os y k ∧ Runes w.heap.size (some ⟨g, 0, none⟩) co os wq ∧ Below w.heap.size w wq) (fun s _ => os.length - (intOf s).toNat)
      case atStart => exact ⟨0, Nat.zero_le _, rfl, Pre.zero _ _, HR.out, HB.out⟩
      case round =>
        clear HR HB cy
        obtain ⟨k, hk, rfl, hp, hR, hB⟩ := hrel
        have HP := Lib.hid hp; clear hp
        obtain ⟨b9, o9, y9, e9, -, hy9, cy⟩ := (hr.below hB).at_ hlt
        injection e9 with e9
        injection e9 with e91 e92
        subst e91 e92
        rw [HY.out] at hy9
        injection hy9 with hy9
        subst hy9
        by_cases hkl : k < os.length
        · obtain ⟨g9, x, e9, -, -, hx, px, dx1, dx2⟩ := hR.at_ hkl
          injection e9 with e9
          injection e9 with e91
          subst e91
          have HX := Lib.hid hx; clear hx
          have kl : (k : Int) < (os.length : Int) := by omega
          have klb : decide (k < os.length) = true := by simp; omega
          have hRd : ∀ q, Runes w.heap.size (some ⟨g, 0, none⟩) co os (wr.drewN q) := fun q => hR.below (below_drewN (Below.refl _ _) q)
          have hBd : ∀ q, Below w.heap.size w (wr.drewN q) := fun q => below_drewN hB q
          have HRd := Lib.hid hRd; have HBd := Lib.hid hBd; clear hR hB hRd hBd
          by_cases hxy : x < y
          · have hxb : decide (x < y) = true := by simp; omega
            have HP2 := Lib.hid (HP.out.succ HX.out hxy)
            go_wp2_with fail
            go_quiet (fail)
            go_wp2
            go_roundw
            case rel => exact ⟨k + 1, by omega, by go_num, HP2.out, HRd.out _, HBd.out _⟩
            case measure => simp [intOf]; omega
          have hxb : decide (x < y) = false := by simp; omega
          have keb : (k == os.length) = false := beq_eq_false_iff_ne.2 (by omega)
          have kei : ((k : Int) == (os.length : Int)) = false := beq_eq_false_iff_ne.2 (by omega)
          by_cases hxe : x = y
          · have hxeb : (x != y) = false := by simp [hxe]
            have hmem : y ∈ os := by have := HX.out; rw [hxe] at this; exact List.mem_of_getElem? this
            have HS2 := Lib.hid (HS.out.skip HY.out (.inr hmem)); clear hmem hxe
            go_wp2_with fail
            go_quiet (fail)
            go_wp2_with fail
            go_quiet (fail)
            go_wp2
            go_roundw
            case rel => exact ⟨i + 1, g, co, os, by omega, by go_num, rfl, HS2.out, HRd.out _, HBd.out _⟩
            case measure => simp [intOf]; omega
          have hxeb : (x != y) = true := by simp [hxe]
          have HDG := Lib.hid (drop_gt HS.out.1 HX.out (by omega : y < x))
          have hck : ¬ co = k := by omega
          have hck' : ¬ k = co := by omega
          go_wp2_with fail
          go_quiet (fail)
          go_wp2_with fail
          go_quiet (fail)
          go_wp2_with fail
          refine at_world (R := fun wd => Runes w.heap.size (some ⟨g, 0, none⟩) co os wd ∧ Below w.heap.size w wd) ⟨(HRd.out _).below (below_drewN (Below.refl _ _) _), below_drewN (HBd.out _) _⟩ ?_
          rintro wd ⟨hR, hB⟩
          obtain ⟨b9, o9, y9, e9, hb9, hy9, cd⟩ := (hr.below hB).at_ hlt
          injection e9 with e9
          injection e9 with e91 e92
          subst e91 e92
          rw [HY.out] at hy9
          injection hy9 with hy9
          subst hy9
          have hszd := hB.size
          have kS : ∀ w', Below wd.heap.size wd w' → w'.cell? ⟨b1, o1 + i, none⟩ = some (.int .i32 y) ∧ Below wd.heap.size wd w' := fun w' h => ⟨(h.cell (p := ⟨b1, o1 + i, none⟩) (by show b1 < wd.heap.size; omega)).trans cd, h⟩
          have KS := Lib.hid kS; clear kS
          have hBd0 : Below wd.heap.size wd wd := Below.refl _ _
          have iz0 : (0 : Int) ≤ (i : Int) := by omega
          have kz0 : (0 : Int) ≤ (k : Int) := by omega
          have kz1 : (k : Int) ≤ (co : Int) := by omega
          have kz2 : (k : Int) ≤ (os.length : Int) := by omega
          have kz3 : (os.length : Int) ≤ (co : Int) := by omega
          have HRw := Lib.hid hR; have HBw := Lib.hid hB; clear hR hB
          go_region_held3 (fun w' => w'.cell? ⟨b1, o1 + i, none⟩ = some (.int .i32 y) ∧ Below wd.heap.size wd w')
            (first
              | exact KS.out _ (by assumption)
              | exact KS.out _ (Below.drew (by assumption))
              | (go_split_ands; exact KS.out _ (bel_alloc (by assumption))))
            (first
              | ((try go_split_ands); refine step_put wd (by rfl) _ _ _ (by rfl) 21 i0 _ 4 Try.underlying41 hi0 hz0 hz1 hz2 rfl _ 0 [] (by rfl) (own_empty1 (by omega) (by first | exact bk_at (by simp) _ _ | exact (bk_at (by simp) _ _).alloc _)) (by assumption) (some ⟨g, 0, none⟩) k _ ((os.take k).map (Value.int .i32)) (by rfl) (by rw [List.length_map, List.length_take]; omega) (fun h => by cases h) (news_take HRw.out (by assumption) k) (ints_oneCell _ _) (by unfold maxLen; omega) (by omega) ?_; intro A2 cap2 w5 hown1 hB1 tr1 hz1w; have hown1n := own_len hown1 (Nat.zero_add k); have TR1 := Lib.hid tr1; clear tr1; have hs1 := hB1.size; (try simp only [World.size_alloc, World.size_drew] at hz1w))
              | ((try go_split_ands); refine step_put wd (by rfl) _ _ _ (by rfl) 21 i0 _ 4 Try.underlying41 hi0 hz0 hz1 hz2 rfl (.slice A2 k cap2) k _ (by rfl) (by first | exact hown1n | exact hown1n.alloc _) (by assumption) (some ⟨_, 0, none⟩) 1 1 [.int .i32 y] (by rfl) rfl (fun h => by cases h) (news_one (cs := #[.int .i32 y]) (t := 21) (by first | exact bk_at (by simp) _ _ | exact TR1.out _ _ _ (by first | exact bk_at (by simp) _ _ | exact (bk_at (by simp) _ _).alloc _) (by first | (simp [Value.ownBlock]; done) | (simp [Value.ownBlock]; omega)))) (by simp [Value.oneCell']) (by unfold maxLen; omega) (by omega) ?_; intro A3 cap3 w6 hown2 hB2 tr2 hz2w; clear tr2; have hown2n := own_len (k' := k + 1) hown2 (by omega); have hs2 := hB2.size)
              | ((try go_split_ands); refine step_put wd (by rfl) _ _ _ (by rfl) 21 i0 _ 4 Try.underlying41 hi0 hz0 hz1 hz2 rfl (.slice A2 (0 + k) cap2) (0 + k) _ (by rfl) (by first | exact hown1 | exact hown1.alloc _) (by assumption) (some ⟨_, 0, none⟩) 1 1 [.int .i32 y] (by rfl) rfl (fun h => by cases h) (news_one (cs := #[.int .i32 y]) (t := 21) (by first | exact bk_at (by simp) _ _ | exact TR1.out _ _ _ (by first | exact bk_at (by simp) _ _ | exact (bk_at (by simp) _ _).alloc _) (by first | (simp [Value.ownBlock]; done) | (simp [Value.ownBlock]; omega)))) (by simp [Value.oneCell']) (by unfold maxLen; omega) (by omega) ?_; intro A3 cap3 w6 hown2 hB2 tr2 hz2w; clear tr2; have hown2n := own_len (k' := k + 1) hown2 (by omega); have hs2 := hB2.size)
              | ((try go_split_ands); refine step_put wd (by rfl) _ _ _ (by rfl) 21 i0 _ 4 Try.underlying41 hi0 hz0 hz1 hz2 rfl (.slice A3 (k + 1) cap3) (k + 1) _ (by rfl) hown2n (by assumption) (some ⟨g, k, none⟩) (os.length - k) _ ((os.drop k).map (Value.int .i32)) (by rfl) (by rw [List.length_map, List.length_drop]; omega) (fun h => by cases h) (news_drop HRw.out (by assumption) k) (ints_oneCell _ _) (by unfold maxLen; omega) (by omega) ?_; intro A4 cap4 w7 hown3 hB3 tr3 hz3w; clear tr3; have hs3 := hB3.size)
              | ((try go_split_ands); refine step_put wd (by rfl) _ _ _ (by rfl) 21 i0 _ 4 Try.underlying41 hi0 hz0 hz1 hz2 rfl (.slice A3 (0 + k + 1) cap3) (0 + k + 1) _ (by rfl) hown2 (by assumption) (some ⟨g, k, none⟩) (os.length - k) _ ((os.drop k).map (Value.int .i32)) (by rfl) (by rw [List.length_map, List.length_drop]; omega) (fun h => by cases h) (news_drop HRw.out (by assumption) k) (ints_oneCell _ _) (by unfold maxLen; omega) (by omega) ?_; intro A4 cap4 w7 hown3 hB3 tr3 hz3w; clear tr3; have hs3 := hB3.size))
          all_goals (
            obtain ⟨g4, rfl, hlen, hRn, hBn⟩ := put_done (k := k) (y := y) HBw.out hB3 hown3 (by omega) (by omega) (by simp) HRw.out.2 ⟨d1, d2⟩
            have HSn := Lib.hid (HS.out.put HY.out (by omega) (by omega) HP.out HDG.out)
            have HRn := Lib.hid hRn; have HBn := Lib.hid hBn; have HLn := Lib.hid hlen; clear hRn hBn hlen hown1 hown2 hown3 hown1n hown2n
            go_wp2
            go_roundw
            case rel => exact ⟨i + 1, g4, _, _, by omega, by go_num, by have := HLn.out; first | (congr 1; done) | (congr 1; omega), HSn.out, HRn.out, HBn.out⟩
            case measure => simp [intOf]; omega)
        · have kl : ¬ ((k : Int) < (os.length : Int)) := by omega
          have klb : decide (k < os.length) = false := by simp; omega
          obtain rfl : k = os.length := by omega
          have HDG := Lib.hid (fun z (hz : z ∈ os.drop os.length) => (by simp at hz : y < z))
          have hRd : ∀ q, Runes w.heap.size (some ⟨g, 0, none⟩) co os (wr.drewN q) := fun q => hR.below (below_drewN (Below.refl _ _) q)
          have hBd : ∀ q, Below w.heap.size w (wr.drewN q) := fun q => below_drewN hB q
          have HRd := Lib.hid hRd; have HBd := Lib.hid hBd; clear hR hB hRd hBd
          have keb : (os.length == os.length) = true := beq_iff_eq.2 rfl
          by_cases hco : co = os.length
          all_goals (
            go_wp2_with fail
            go_quiet (fail)
            go_wp2_with fail
            go_quiet (fail)
            go_wp2_with fail
            refine at_world (R := fun wd => Runes w.heap.size (some ⟨g, 0, none⟩) co os wd ∧ Below w.heap.size w wd) ⟨(HRd.out _).below (below_drewN (Below.refl _ _) _), below_drewN (HBd.out _) _⟩ ?_
            rintro wd ⟨hR, hB⟩
            obtain ⟨b9, o9, y9, e9, hb9, hy9, cd⟩ := (hr.below hB).at_ hlt
            injection e9 with e9
            injection e9 with e91 e92
            subst e91 e92
            rw [HY.out] at hy9
            injection hy9 with hy9
            subst hy9
            have hszd := hB.size
            have kS : ∀ w', Below wd.heap.size wd w' → w'.cell? ⟨b1, o1 + i, none⟩ = some (.int .i32 y) ∧ Below wd.heap.size wd w' := fun w' h => ⟨(h.cell (p := ⟨b1, o1 + i, none⟩) (by show b1 < wd.heap.size; omega)).trans cd, h⟩
            have KS := Lib.hid kS; clear kS
            have hBd0 : Below wd.heap.size wd wd := Below.refl _ _
            have iz0 : (0 : Int) ≤ (i : Int) := by omega
            have kz0 : (0 : Int) ≤ (os.length : Int) := by omega
            have kz1 : (os.length : Int) ≤ (co : Int) := by omega
            have kz2 : (os.length : Int) ≤ (os.length : Int) := by omega
            have kz3 : (os.length : Int) ≤ (co : Int) := by omega
            have HRw := Lib.hid hR; have HBw := Lib.hid hB; clear hR hB
            go_region_held3 (fun w' => w'.cell? ⟨b1, o1 + i, none⟩ = some (.int .i32 y) ∧ Below wd.heap.size wd w')
              (first
                | exact KS.out _ (by assumption)
                | exact KS.out _ (Below.drew (by assumption))
                | (go_split_ands; exact KS.out _ (bel_alloc (by assumption))))
              (first
                | ((try go_split_ands); refine step_put wd (by rfl) _ _ _ (by rfl) 21 i0 _ 4 Try.underlying41 hi0 hz0 hz1 hz2 rfl _ 0 [] (by rfl) (own_empty1 (by omega) (by first | exact bk_at (by simp) _ _ | exact (bk_at (by simp) _ _).alloc _)) (by assumption) (some ⟨g, 0, none⟩) os.length _ ((os.take os.length).map (Value.int .i32)) (by rfl) (by rw [List.length_map, List.length_take]; omega) (fun h => by cases h) (news_take HRw.out (by assumption) os.length) (ints_oneCell _ _) (by unfold maxLen; omega) (by omega) ?_; intro A2 cap2 w5 hown1 hB1 tr1 hz1w; have hown1n := own_len hown1 (Nat.zero_add os.length); have TR1 := Lib.hid tr1; clear tr1; have hs1 := hB1.size; (try simp only [World.size_alloc, World.size_drew] at hz1w))
                | ((try go_split_ands); refine step_put wd (by rfl) _ _ _ (by rfl) 21 i0 _ 4 Try.underlying41 hi0 hz0 hz1 hz2 rfl (.slice A2 os.length cap2) os.length _ (by rfl) (by first | exact hown1n | exact hown1n.alloc _) (by assumption) (some ⟨_, 0, none⟩) 1 1 [.int .i32 y] (by rfl) rfl (fun h => by cases h) (news_one (cs := #[.int .i32 y]) (t := 21) (by first | exact bk_at (by simp) _ _ | exact TR1.out _ _ _ (by first | exact bk_at (by simp) _ _ | exact (bk_at (by simp) _ _).alloc _) (by first | (simp [Value.ownBlock]; done) | (simp [Value.ownBlock]; omega)))) (by simp [Value.oneCell']) (by unfold maxLen; omega) (by omega) ?_; intro A3 cap3 w6 hown2 hB2 tr2 hz2w; clear tr2; have hown2n := own_len (k' := os.length + 1) hown2 (by omega); have hs2 := hB2.size)
                | ((try go_split_ands); refine step_put wd (by rfl) _ _ _ (by rfl) 21 i0 _ 4 Try.underlying41 hi0 hz0 hz1 hz2 rfl (.slice A2 (0 + os.length) cap2) (0 + os.length) _ (by rfl) (by first | exact hown1 | exact hown1.alloc _) (by assumption) (some ⟨_, 0, none⟩) 1 1 [.int .i32 y] (by rfl) rfl (fun h => by cases h) (news_one (cs := #[.int .i32 y]) (t := 21) (by first | exact bk_at (by simp) _ _ | exact TR1.out _ _ _ (by first | exact bk_at (by simp) _ _ | exact (bk_at (by simp) _ _).alloc _) (by first | (simp [Value.ownBlock]; done) | (simp [Value.ownBlock]; omega)))) (by simp [Value.oneCell']) (by unfold maxLen; omega) (by omega) ?_; intro A3 cap3 w6 hown2 hB2 tr2 hz2w; clear tr2; have hown2n := own_len (k' := os.length + 1) hown2 (by omega); have hs2 := hB2.size)
                | ((try go_split_ands); refine step_put wd (by rfl) _ _ _ (by rfl) 21 i0 _ 4 Try.underlying41 hi0 hz0 hz1 hz2 rfl (.slice A3 (os.length + 1) cap3) (os.length + 1) _ (by rfl) hown2n (by assumption) _ 0 _ [] (by rfl) rfl (fun h => by cases h) news_none (by simp) (by unfold maxLen; omega) (by omega) ?_; intro A4 cap4 w7 hown3 hB3 tr3 hz3w; clear tr3; have hs3 := hB3.size)
                | ((try go_split_ands); refine step_put wd (by rfl) _ _ _ (by rfl) 21 i0 _ 4 Try.underlying41 hi0 hz0 hz1 hz2 rfl (.slice A3 (0 + os.length + 1) cap3) (0 + os.length + 1) _ (by rfl) hown2 (by assumption) _ 0 _ [] (by rfl) rfl (fun h => by cases h) news_none (by simp) (by unfold maxLen; omega) (by omega) ?_; intro A4 cap4 w7 hown3 hB3 tr3 hz3w; clear tr3; have hs3 := hB3.size))
            all_goals (
              obtain ⟨g4, rfl, hlen, hRn, hBn⟩ := put_done (k := os.length) (y := y) HBw.out hB3 hown3 (by omega) (by omega) (by simp) HRw.out.2 ⟨d1, d2⟩
              have HSn := Lib.hid (HS.out.put HY.out (by omega) (by omega) HP.out HDG.out)
              have HRn := Lib.hid hRn; have HBn := Lib.hid hBn; have HLn := Lib.hid hlen; clear hRn hBn hlen hown1 hown2 hown3 hown1n hown2n
              go_wp2
              go_roundw
              case rel => exact ⟨i + 1, g4, _, _, by omega, by go_num, by have := HLn.out; first | (congr 1; done) | (congr 1; omega), HSn.out, HRn.out, HBn.out⟩
              case measure => simp [intOf]; omega))
    · have hlz : ¬ ((i : Int) < (zs.length : Int)) := by omega
      obtain rfl : i = zs.length := by omega
      have HR := Lib.hid hR; have HB := Lib.hid hB; clear hR hB
      go_wp2
      go_ret
      exact ⟨_, co, os, rfl, HS.out, HR.out, HB.out⟩
end Go.Proofs.Ytnhmacmpobkdoaa
