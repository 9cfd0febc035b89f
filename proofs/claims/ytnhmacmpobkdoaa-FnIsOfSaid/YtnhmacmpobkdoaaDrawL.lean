/- The generator DrawList: a list of numbers of 32 bits in new memory, and one more; nothing that was there is changed. -/
import Derived.Test.YtnhmacmpobkdoaaDrawF
import Derived.Test.YtnhmacmpobkdoaaTabE
namespace Go.Proofs.Ytnhmacmpobkdoaa
open Go.RowKit
set_option linter.unusedVariables false

theorem info_rune : (Try.prog.info? 21).map (fun i => (i.zero, i.size, i.bytes)) = some (some (.int .i32 0), 1, 4) := by kernel_rfl

/-- All numbers of a list have 32 bits. -/
def I32 (zs : List Int) : Prop := ∀ z ∈ zs, -2147483648 ≤ z ∧ z ≤ 2147483647
/-- Numbers in a row of the call's own. -/
def Runes (B : Nat) (A' : Option Addr) (c' : Nat) (zs : List Int) (wr : World) : Prop :=
  wr.ownsRow B 21 1 (.slice A' zs.length c') zs.length (zs.map (Value.int .i32)) ∧ I32 zs
section
variable {B : Nat} {A' : Option Addr} {c' : Nat} {zs : List Int} {wr w1 : World}
theorem Runes.below (h : Runes B A' c' zs wr) (hb : Below wr.heap.size wr w1) : Runes B A' c' zs w1 := ⟨own_below h.1 hb, h.2⟩
theorem Runes.alloc (h : Runes B A' c' zs wr) (o : Obj) : Runes B A' c' zs (wr.alloc o) := ⟨h.1.alloc o, h.2⟩
theorem Runes.only {R : Nat} {t : TypeId} {cs : Array Value} (h : Runes B A' c' zs wr) (hR : Bk wr R t cs) (h0 : 21 ≠ t) (ho : Only R wr w1) : Runes B A' c' zs w1 := ⟨own_only h.1 hR h0 ho, h.2⟩
theorem Runes.start (B : Nat) (w : World) (hB : B ≤ w.heap.size) : Runes B (some ⟨w.heap.size, 0, none⟩) 0 [] (w.alloc (.cells #[] 21)) :=
  ⟨⟨rfl, .inr ⟨w.heap.size, 0, #[], rfl, hB, heap_alloc_new _ _, Nat.le_refl _, by unfold maxLen; omega, rfl, rfl⟩⟩, fun x hx => by cases hx⟩
theorem Runes.snoc {g cap : Nat} {z : Int} (h : Runes B A' c' zs wr) (hz : -2147483648 ≤ z ∧ z ≤ 2147483647)
    (hown : w1.ownsRow B 21 1 (.slice (some ⟨g, 0, none⟩) (zs.length + 1) cap) (zs.length + 1) (zs.map (Value.int .i32) ++ [.int .i32 z])) :
    Runes B (some ⟨g, 0, none⟩) cap (zs ++ [z]) w1 := by
  refine ⟨by rw [List.map_append, List.length_append]; exact hown, fun y hy => ?_⟩
  rcases List.mem_append.1 hy with hy | hy
  · exact h.2 y hy
  · rw [List.mem_singleton] at hy
    subst hy; exact hz
theorem Runes.at_ {m : Nat} (h : Runes B A' c' zs wr) (hm : m < zs.length) : ∃ g y, A' = some ⟨g, 0, none⟩ ∧ B ≤ g ∧ g < wr.heap.size ∧ zs[m]? = some y ∧ wr.cell? ⟨g, m, none⟩ = some (.int .i32 y) ∧ -2147483648 ≤ y ∧ y ≤ 2147483647 := by
  obtain ⟨g, cap, hv, hB, hlt⟩ := h.1.form (by omega)
  have hA : A' = some ⟨g, 0, none⟩ := by injection hv
  subst hA
  have hx : zs[m]? = some zs[m] := List.getElem?_eq_getElem hm
  have hc := h.1.cells (g := g) rfl m (.int .i32 zs[m]) (by rw [List.getElem?_map, hx]; rfl)
  have ad : (⟨g, 0, none⟩ : Addr).add m = ⟨g, m, none⟩ := by unfold Addr.add; split <;> simp_all
  rw [ad] at hc
  exact ⟨g, zs[m], rfl, hB, hlt, hx, hc, h.2 _ (List.getElem_mem hm)⟩
end

/-- What DrawList leaves. -/
def DrewList (w : World) (e : Ending) (w' : World) : Prop :=
  ∃ (A' : Option Addr) (c' : Nat) (zs : List Int) (r : Int), e = .returned (.tuple #[.slice A' zs.length c', .int .i32 r]) ∧ zs.length ≤ 12 ∧ Runes w.heap.size A' c' zs w' ∧ -2147483648 ≤ r ∧ r ≤ 2147483647 ∧ Below w.heap.size w w'

set_option maxHeartbeats 4000000 in
set_option maxRecDepth 100000 in
theorem drawList_any (A : Option Addr) (n c : Nat) (w : World) (hn : n ≤ 1048576) (hA : RdB w w.heap.size A n) :
    Calls Try.prog 26 #[.slice A n c] w (DrewList w) := by
  obtain ⟨i0, hi0, hz0, hz1, hz2⟩ := info_parts info_rune
  have hRb : Bk (w.alloc (.cells #[.slice A n c, .int .i64 0] 59)) w.heap.size 59 #[.slice A n c, .int .i64 ((0 : Nat) : Int)] := Bk.new w _ _
  have hb0 := (Below.refl w.heap.size w).alloc (Nat.le_refl _) (.cells #[.slice A n c, .int .i64 0] 59)
  have hS : St (w.alloc (.cells #[.slice A n c, .int .i64 0] 59)) w.heap.size w.heap.size A n c 0 := ⟨by omega, hRb, hA.keep fun p hp => hb0.cell hp, hn⟩
  have HT := Lib.hid (drawTable_any w.heap.size w.heap.size A n c 0 _ hS (by omega))
  clear hRb
  go_enter Try.func26, Try.ntmps26
  go_wp2_with fail
  go_at_call 39
  refine HT.out.mono ?_
  rintro e w1 ⟨A16, c16, A32, c32, a, b, q1, rfl, hT1, hq1, hS1, ho1⟩
  have hb1 := hb0.trans (ho1.belowOf (B := w.heap.size) (Nat.le_refl _) hb0.size)
  have hT1m := hT1.mono (base' := w.heap.size) hb0.size
  have hsz1 : w.heap.size ≤ w1.heap.size := hb1.size
  clear HT hb0 hS ho1 hT1
  have hla := hT1m.2.2.2.2.1
  have hlb := hT1m.2.2.2.2.2
  have hal := (Below.refl w1.heap.size w1).alloc (Nat.le_refl _) (.cells #[.slice A16 a.length c16, .slice A32 b.length c32, .int .i64 (latN a)] 27)
  have hR0 := Runes.start w.heap.size (w1.alloc (.cells #[.slice A16 a.length c16, .slice A32 b.length c32, .int .i64 (latN a)] 27)) (by simp; omega)
  have hal2 := hal.alloc (by simp) (.cells #[] 21)
  have hS2 := (hS1.below hal).alloc (.cells #[] 21)
  have hT2 := hT1m.below hal2
  have hb2 := hb1.trans (hal2.mono hb1.size)
  have hX2 := (Bk.new w1 27 #[.slice A16 a.length c16, .slice A32 b.length c32, .int .i64 (latN a)]).alloc (.cells #[] 21)
  have hsz2 : (w1.alloc (.cells #[.slice A16 a.length c16, .slice A32 b.length c32, .int .i64 (latN a)] 27)).heap.size = w1.heap.size + 1 := by simp
  have hsz3 : ((w1.alloc (.cells #[.slice A16 a.length c16, .slice A32 b.length c32, .int .i64 (latN a)] 27)).alloc (.cells #[] 21)).heap.size = w1.heap.size + 2 := by simp
  have hneX : some w1.heap.size ≠ some w.heap.size := fun h => by injection h with h; have := hS1.lt; omega
  rw [hsz2] at hR0
  have HO := Lib.hid (one_any w.heap.size w.heap.size A n c q1 (w1.heap.size + 2) [4, 6, 2, 1, 0, 12] 0 12 _ (hS2.alloc (.cells #[.int .i64 4, .int .i64 6, .int .i64 2, .int .i64 1, .int .i64 0, .int .i64 12] 3)) (by omega) (by simp) (by simp)
    (by have := Bk.new ((w1.alloc (.cells #[.slice A16 a.length c16, .slice A32 b.length c32, .int .i64 (latN a)] 27)).alloc (.cells #[] 21)) 3 #[.int .i64 4, .int .i64 6, .int .i64 2, .int .i64 1, .int .i64 0, .int .i64 12]; rw [hsz3] at this; exact this) (by intro z hz; simp at hz; omega))
  have hR1 := hR0.alloc (.cells #[.int .i64 4, .int .i64 6, .int .i64 2, .int .i64 1, .int .i64 0, .int .i64 12] 3)
  have hS3 := hS2.alloc (.cells #[.int .i64 4, .int .i64 6, .int .i64 2, .int .i64 1, .int .i64 0, .int .i64 12] 3)
  have hX3 := hX2.alloc (.cells #[.int .i64 4, .int .i64 6, .int .i64 2, .int .i64 1, .int .i64 0, .int .i64 12] 3)
  have hT3 := hT2.below ((Below.refl _ _).alloc (Nat.le_refl _) (.cells #[.int .i64 4, .int .i64 6, .int .i64 2, .int .i64 1, .int .i64 0, .int .i64 12] 3))
  have hb3 := hb2.alloc hb2.size (.cells #[.int .i64 4, .int .i64 6, .int .i64 2, .int .i64 1, .int .i64 0, .int .i64 12] 3)
  clear hR0 hal hal2 hS2 hT2 hb2 hX2 hsz2 hsz3 hS1 hT1m hb1
  go_wp2_with fail
  go_at_call 47
  refine HO.out.mono ?_
  rintro e w2 ⟨z2, q2, rfl, k0, k1, hq2, hS4, ho2⟩
  obtain ⟨K, rfl⟩ := Int.eq_ofNat_of_zero_le k0
  have hR4 := hR1.only hS3.bk (by decide) ho2
  have hT4 := hT3.only hS3.bk (by decide) (by decide) ho2
  have hX4 := hX3.grown ho2 hneX
  have hb4 := hb3.trans (ho2.belowOf (B := w.heap.size) (Nat.le_refl _) hb3.size)
  clear HO hR1 hS3 hX3 hT3 hb3 ho2
  have HNEX := Lib.hid hneX; clear hneX
  go_wp2_with fail
  go_loopw [6, 7] (fun s5 s6 wr => ∃ (A' : Option Addr) (c' : Nat) (zs : List Int) (k q' : Nat), s5 = .slice A' zs.length c' ∧ s6 = .int .i64 (k : Int) ∧ zs.length + k ≤ 12 ∧ q' + 10 * k ≤ 2000 ∧
    Runes w.heap.size A' c' zs wr ∧ TabO wr w.heap.size A16 c16 A32 c32 a b ∧ Bk wr w1.heap.size 27 #[.slice A16 a.length c16, .slice A32 b.length c32, .int .i64 (latN a)] ∧ St wr w.heap.size w.heap.size A n c q' ∧ Below w.heap.size w wr) (fun _ s6 _ => (intOf s6).toNat)
  case atStart => exact ⟨some ⟨w1.heap.size + 1, 0, none⟩, 0, [], K, q2, rfl, rfl, by simp; omega, by omega, hR4, hT4, hX4, hS4, hb4⟩
  case round =>
    clear hR4 hT4 hX4 hS4 hb4
    obtain ⟨A', c', zs, k, q', rfl, rfl, hzk, hqk, hR, hT, hX, hS, hB⟩ := hrel
    have x0 : wr.cell? ⟨w1.heap.size, 0, none⟩ = some (.slice A16 a.length c16) := by rw [hX.cell]; rfl
    have x1 : wr.cell? ⟨w1.heap.size, 1, none⟩ = some (.slice A32 b.length c32) := by rw [hX.cell]; rfl
    have x2 : wr.cell? ⟨w1.heap.size, 2, none⟩ = some (.int .i64 (latN a)) := by rw [hX.cell]; rfl
    by_cases hk : 0 < k
    · have hkz : (0 : Int) < (k : Int) := by omega
      have HN := Lib.hid (number_any w.heap.size w.heap.size A n c q' A16 A32 c16 c32 a b (latN a) wr hS (by omega) hT.rd16 hT.rd32 (by omega) (by omega))
      go_wp2_with fail
      go_at_call 40
      refine HN.out.mono ?_
      rintro e w3 ⟨z, q3, rfl, m0, m1, hq3, hS3, ho3⟩
      have hR3 := hR.only hS.bk (by decide) ho3
      have hT3 := hT.only hS.bk (by decide) (by decide) ho3
      have hX3 := hX.grown ho3 HNEX.out
      have hB3 := hB.trans (ho3.belowOf (B := w.heap.size) (Nat.le_refl _) hB.size)
      clear HN hR hT hX hS hB ho3 x0 x1 x2
      have hown := hR3.1
      have HR := Lib.hid hR3
      have hsz := hB3.size
      clear hR3
      go_wp2_with (at_builtin; refine wpList_append_lies _ rfl _ _ _ rfl w.heap.size 21 i0 _ 1 4 Try.underlying41 hi0 hz0 hz1 hz2 rfl (by omega) (.slice A' zs.length c') zs.length (zs.map (Value.int .i32)) rfl (hown.alloc _) ⟨w3.heap.size, 0, none⟩ 1 1 [.int .i32 z] rfl rfl (World.news_of_block (cs := #[.int .i32 z]) (t := 21) (fr := (0, 0)) (heap_alloc_new w3 _)) (by simp [Value.oneCell']) (by omega) (by unfold maxLen; omega) (by omega) (by simp; omega) (w3.heap.size + 1) (by simp) ?_; intro gg cap wa hown2 hgrow hat hlt2)
      have hR4 := Runes.snoc (HR.out.alloc (.cells #[.int .i32 z] 21)) ⟨m0, m1⟩ hown2
      have hT4 := (hT3.below ((Below.refl _ _).alloc (Nat.le_refl _) (.cells #[.int .i32 z] 21))).grown (hown.alloc (.cells #[.int .i32 z] 21)) hgrow (by decide) (by decide)
      have hX4 := (hX3.alloc (.cells #[.int .i32 z] 21)).grown hgrow (own_bk (hown.alloc (.cells #[.int .i32 z] 21)) (hX3.alloc (.cells #[.int .i32 z] 21)) (by decide))
      have hS4 := (hS3.alloc (.cells #[.int .i32 z] 21)).grown hgrow (own_bk (hown.alloc (.cells #[.int .i32 z] 21)) (hS3.alloc (.cells #[.int .i32 z] 21)).bk (by decide)) (own_ge (hown.alloc (.cells #[.int .i32 z] 21)))
      have hB4 := (hB3.alloc hB3.size (.cells #[.int .i32 z] 21)).grown hgrow (by simp; omega) (own_ge (hown.alloc (.cells #[.int .i32 z] 21)))
      clear hown hown2 hgrow hat hlt2 hT3 hX3 hS3 hB3
      go_wp2
      go_roundw
      case rel => exact ⟨_, _, zs ++ [z], k - 1, q3, by simp, by go_num, by simp; omega, by omega, hR4, hT4, hX4, hS4, hB4⟩
      case measure => simp [intOf]; omega
    · have hkz : ¬ ((0 : Int) < (k : Int)) := by omega
      by_cases hz : 0 < zs.length
      · have hzz : (0 : Int) < (zs.length : Int) := by omega
        have hzb : decide ((0 : Int) < (zs.length : Int)) = true := decide_eq_true hzz
        have HP := Lib.hid (pick_any w.heap.size w.heap.size A n c q' 2 wr hS (by omega) (by omega) (by omega))
        go_wp2_with fail
        go_at_call 41
        refine HP.out.mono ?_
        rintro e w3 ⟨z3, rfl, p0, p1, hS3, ho3⟩
        have hR3 := hR.only hS.bk (by decide) ho3
        have hT3 := hT.only hS.bk (by decide) (by decide) ho3
        have hX3 := hX.grown ho3 HNEX.out
        have hB3 := hB.trans (ho3.belowOf (B := w.heap.size) (Nat.le_refl _) hB.size)
        clear HP hR hT hX hS hB ho3 x0 x1 x2
        have x0 : w3.cell? ⟨w1.heap.size, 0, none⟩ = some (.slice A16 a.length c16) := by rw [hX3.cell]; rfl
        have x1 : w3.cell? ⟨w1.heap.size, 1, none⟩ = some (.slice A32 b.length c32) := by rw [hX3.cell]; rfl
        have x2 : w3.cell? ⟨w1.heap.size, 2, none⟩ = some (.int .i64 (latN a)) := by rw [hX3.cell]; rfl
        by_cases hz3 : z3 = 0
        · subst hz3
          have HP := Lib.hid (pick_any w.heap.size w.heap.size A n c (q' + 1) (zs.length : Int) w3.drew hS3.drew (by omega) (by omega) (by omega))
          have hR3' := hR3
          obtain ⟨g, y', rfl, hg0, hg1, -⟩ := hR3.at_ (m := 0) hz
          have keepS : ∀ w', Runes w.heap.size (some ⟨g, 0, none⟩) c' zs w' → ∀ (m : Nat) (y : Int), zs[m]? = some y → w'.cell? ⟨g, m, none⟩ = some (.int .i32 y) := fun w' h m y hy => by
            have hm := (List.getElem?_eq_some_iff.1 hy).1
            obtain ⟨g', z, eA, -, -, hz, hc, -⟩ := h.at_ hm
            obtain rfl : g = g' := by injection eA with eA; injection eA
            rw [hy] at hz
            injection hz with hz
            rw [hz]; exact hc
          have KS := Lib.hid keepS; clear keepS
          clear x0 x1 x2
          go_wp2_with fail
          go_region_held3 (fun w' => ∀ (m : Nat) (y : Int), zs[m]? = some y → w'.cell? ⟨g, m, none⟩ = some (.int .i32 y))
            (first
              | exact KS.out _ hR3
              | exact KS.out _ hR4)
            (first
              | (go_at_call 41; refine HP.out.mono ?_; rintro e w4 ⟨z4, rfl, r0, r1, hS4, ho4⟩; obtain ⟨m, rfl⟩ := Int.eq_ofNat_of_zero_le r0; have hR4 := Runes.only hR3 hS3.bk (by decide) (Only.trans (Only.refl _ _).drew ho4); have hB4 := hB3.trans ((Only.trans (Only.refl _ _).drew ho4).belowOf (B := w.heap.size) (Nat.le_refl _) hB3.size); obtain ⟨g', y, eA, -, -, hy, hyc, y0, y1⟩ := hR4.at_ (m := m) (by omega); obtain rfl : g = g' := (by injection eA with eA; injection eA); have hm : (m : Int) < (zs.length : Int) := (by omega)))
          go_wp2
          exact bodyPost_ret (v := .tuple #[.slice (some ⟨g, 0, none⟩) zs.length c', .int .i32 y]) (by simp [results, Try.results26, go_sem]) rfl ⟨_, c', zs, y, rfl, by omega, hR4, y0, y1, hB4⟩
        · have hz3b : (z3 == 0) = false := by simp [hz3]
          have HN := Lib.hid (number_any w.heap.size w.heap.size A n c (q' + 1) A16 A32 c16 c32 a b (latN a) w3 hS3 (by omega) hT3.rd16 hT3.rd32 (by omega) (by omega))
          go_wp2_with fail
          go_at_call 40
          refine HN.out.mono ?_
          rintro e w4 ⟨z4, q4, rfl, m0, m1, hq4, hS4, ho4⟩
          have hR4 := hR3.only hS3.bk (by decide) ho4
          have hB4 := hB3.trans (ho4.belowOf (B := w.heap.size) (Nat.le_refl _) hB3.size)
          clear HN ho4
          go_wp2
          exact bodyPost_ret (v := .tuple #[.slice A' zs.length c', .int .i32 z4]) (by simp [results, Try.results26, go_sem]) rfl ⟨A', c', zs, z4, rfl, by omega, hR4, m0, m1, hB4⟩
      · have hzz : ¬ ((0 : Int) < (zs.length : Int)) := by omega
        have hzb : decide ((0 : Int) < (zs.length : Int)) = false := decide_eq_false hzz
        have HN := Lib.hid (number_any w.heap.size w.heap.size A n c q' A16 A32 c16 c32 a b (latN a) wr hS (by omega) hT.rd16 hT.rd32 (by omega) (by omega))
        go_wp2_with fail
        go_at_call 40
        refine HN.out.mono ?_
        rintro e w4 ⟨z4, q4, rfl, m0, m1, hq4, hS4, ho4⟩
        have hR4 := hR.only hS.bk (by decide) ho4
        have hB4 := hB.trans (ho4.belowOf (B := w.heap.size) (Nat.le_refl _) hB.size)
        clear HN ho4
        go_wp2
        exact bodyPost_ret (v := .tuple #[.slice A' zs.length c', .int .i32 z4]) (by simp [results, Try.results26, go_sem]) rfl ⟨A', c', zs, z4, rfl, by omega, hR4, m0, m1, hB4⟩
end Go.Proofs.Ytnhmacmpobkdoaa
