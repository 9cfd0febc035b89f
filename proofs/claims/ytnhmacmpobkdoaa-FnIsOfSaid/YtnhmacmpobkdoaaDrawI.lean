/- The generator DrawIn: a number of 32 bits, and a list of tables in new memory; nothing that was there is changed. -/
import Derived.Test.YtnhmacmpobkdoaaDrawF
import Derived.Test.YtnhmacmpobkdoaaTabE
namespace Go.Proofs.Ytnhmacmpobkdoaa
open Go.RowKit
set_option linter.unusedVariables false

theorem info_tab : (Try.prog.info? 27).map (fun i => (i.zero, i.size, i.bytes)) = some (some (.agg #[.slice none 0 0, .slice none 0 0, .int .i64 0]), 3, 56) := by kernel_rfl

/-- What DrawIn leaves. -/
def DrewIn (w : World) (e : Ending) (w' : World) : Prop :=
  ∃ (A' : Option Addr) (c' : Nat) (es : List Ent) (r : Int), e = .returned (.tuple #[.int .i32 r, .slice A' es.length c']) ∧ es.length ≤ 5 ∧ Lst w.heap.size A' c' es w' ∧ -2147483648 ≤ r ∧ r ≤ 2147483647 ∧ Below w.heap.size w w'

set_option maxHeartbeats 4000000 in
set_option maxRecDepth 100000 in
theorem drawIn_any (A : Option Addr) (n c : Nat) (w : World) (hn : n ≤ 1048576) (hA : RdB w w.heap.size A n) :
    Calls Try.prog 34 #[.slice A n c] w (DrewIn w) := by
  obtain ⟨i0, hi0, hz0, hz1, hz2⟩ := info_parts info_tab
  have hRb : Bk (w.alloc (.cells #[.slice A n c, .int .i64 0] 59)) w.heap.size 59 #[.slice A n c, .int .i64 ((0 : Nat) : Int)] := Bk.new w _ _
  have hb0 := (Below.refl w.heap.size w).alloc (Nat.le_refl _) (.cells #[.slice A n c, .int .i64 0] 59)
  have hS : St (w.alloc (.cells #[.slice A n c, .int .i64 0] 59)) w.heap.size w.heap.size A n c 0 := ⟨by omega, hRb, hA.keep fun p hp => hb0.cell hp, hn⟩
  have hL0 := Lst.start w.heap.size (w.alloc (.cells #[.slice A n c, .int .i64 0] 59)) (by simp)
  have hS1 := hS.alloc (.cells #[] 27)
  have hb1 := hb0.alloc (by simp) (.cells #[] 27)
  have hsz : (w.alloc (.cells #[.slice A n c, .int .i64 0] 59)).heap.size = w.heap.size + 1 := by simp
  have hsz2 : ((w.alloc (.cells #[.slice A n c, .int .i64 0] 59)).alloc (.cells #[] 27)).heap.size = w.heap.size + 2 := by simp
  rw [hsz] at hL0
  clear hRb hS hb0
  have HO := Lib.hid (one_any w.heap.size w.heap.size A n c 0 (w.heap.size + 2) [0, 97, 256, 65536, 1114111, -1] (-1) 1114111 _ (hS1.alloc (.cells #[.int .i64 0, .int .i64 97, .int .i64 256, .int .i64 65536, .int .i64 1114111, .int .i64 (-1)] 3)) (by omega) (by simp) (by simp)
    (by have := Bk.new ((w.alloc (.cells #[.slice A n c, .int .i64 0] 59)).alloc (.cells #[] 27)) 3 #[.int .i64 0, .int .i64 97, .int .i64 256, .int .i64 65536, .int .i64 1114111, .int .i64 (-1)]; rw [hsz2] at this; exact this) (by intro z hz; simp at hz; omega))
  go_enter Try.func34, Try.ntmps34
  go_wp2_with fail
  go_at_call 47
  refine HO.out.mono ?_
  rintro e w1 ⟨z, q1, rfl, g0, g1, hq1, hSo, ho1⟩
  have hL1 := (hL0.alloc (.cells #[.int .i64 0, .int .i64 97, .int .i64 256, .int .i64 65536, .int .i64 1114111, .int .i64 (-1)] 3)).only (hS1.alloc _).bk (by decide) (by decide) (by decide) ho1
  have hbo := (hb1.alloc (by simp; omega) (.cells #[.int .i64 0, .int .i64 97, .int .i64 256, .int .i64 65536, .int .i64 1114111, .int .i64 (-1)] 3))
  have hb2 := hbo.trans (ho1.belowOf (B := w.heap.size) (Nat.le_refl _) hbo.size)
  clear HO hL0 hS1 hb1 hsz hsz2 ho1 hbo
  have HO := Lib.hid (one_any w.heap.size w.heap.size A n c q1 w1.heap.size [2, 3, 1, 0, 5] 0 5 _ (hSo.alloc (.cells #[.int .i64 2, .int .i64 3, .int .i64 1, .int .i64 0, .int .i64 5] 3)) (by omega) (by simp) (by simp) (Bk.new _ _ _) (by intro z hz; simp at hz; omega))
  have hL2 := hL1.alloc (.cells #[.int .i64 2, .int .i64 3, .int .i64 1, .int .i64 0, .int .i64 5] 3)
  have hbk := (hSo.alloc (.cells #[.int .i64 2, .int .i64 3, .int .i64 1, .int .i64 0, .int .i64 5] 3)).bk
  have hb3 := hb2.alloc hb2.size (.cells #[.int .i64 2, .int .i64 3, .int .i64 1, .int .i64 0, .int .i64 5] 3)
  clear hL1 hSo hb2
  go_wp2_with fail
  go_at_call 47
  refine HO.out.mono ?_
  rintro e w2 ⟨z2, q2, rfl, k0, k1, hq2, hS2, ho2⟩
  obtain ⟨K, rfl⟩ := Int.eq_ofNat_of_zero_le k0
  have hL3 := hL2.only hbk (by decide) (by decide) (by decide) ho2
  have hb4 := hb3.trans (ho2.belowOf (B := w.heap.size) (Nat.le_refl _) hb3.size)
  clear HO hL2 hbk hb3 ho2
  go_wp2_with fail
  go_loopw [5, 6, 7] (fun s4 s5 s6 wr => ∃ (A' : Option Addr) (c' : Nat) (es : List Ent) (nx : Int) (k q' : Nat), s4 = .slice A' es.length c' ∧ s5 = .int .i64 nx ∧ s6 = .int .i64 (k : Int) ∧ -2147483648 ≤ nx ∧ nx ≤ 2147483647 ∧ es.length + k ≤ 5 ∧ q' + 2000 * k ≤ 20000 ∧
    Lst w.heap.size A' c' es wr ∧ St wr w.heap.size w.heap.size A n c q' ∧ Below w.heap.size w wr) (fun _ _ s6 _ => (intOf s6).toNat)
  case atStart => exact ⟨some ⟨w.heap.size + 1, 0, none⟩, 0, [], z, K, q2, rfl, rfl, rfl, by omega, by omega, by simp; omega, by omega, hL3, hS2, hb4⟩
  case round =>
    clear hL3 hS2 hb4
    obtain ⟨A', c', es, nx, k, q', rfl, rfl, rfl, hn0, hn1, hek, hqk, hL, hS, hB⟩ := hrel
    by_cases hk : 0 < k
    · have hkz : (0 : Int) < (k : Int) := by omega
      have HT := Lib.hid (drawTable_any w.heap.size w.heap.size A n c q' wr hS (by omega))
      go_wp2_with fail
      go_at_call 39
      refine HT.out.mono ?_
      rintro e w3 ⟨A16, c16, A32, c32, a, b, q3, rfl, hT3, hq3, hS3, ho3⟩
      have hL3 := hL.only hS.bk (by decide) (by decide) (by decide) ho3
      have hB3 := hB.trans (ho3.belowOf (B := w.heap.size) (Nat.le_refl _) hB.size)
      have hT3m := hT3.mono (base' := w.heap.size) hB.size
      clear HT hL hS hB ho3 hT3
      have hal := (Below.refl w3.heap.size w3).alloc (Nat.le_refl _) (.cells #[.slice A16 a.length c16, .slice A32 b.length c32, .int .i64 (latN a)] 27)
      have hne := own_new hL3.1
      have hL4 := hL3.below hal
      have hS4 := hS3.below hal
      have hT4 := hT3m.below hal
      have hB4 := hB3.trans (hal.mono hB3.size)
      have hX4 := Bk.new w3 27 #[.slice A16 a.length c16, .slice A32 b.length c32, .int .i64 (latN a)]
      have hsz4 : (w3.alloc (.cells #[.slice A16 a.length c16, .slice A32 b.length c32, .int .i64 (latN a)] 27)).heap.size = w3.heap.size + 1 := by simp
      have hlt3 := hS3.lt
      clear hal hL3 hS3 hT3m hB3
      have hla := hT4.2.2.2.2.1
      have hlb := hT4.2.2.2.2.2
      have hown := hL4.1
      have HL := Lib.hid hL4
      have hsz := hB4.size
      clear hL4
      go_wp2_with (at_builtin; refine wpList_append_lies _ rfl _ _ _ rfl w.heap.size 27 i0 _ 3 56 Try.underlying29 hi0 hz0 hz1 hz2 rfl (by omega) (.slice A' es.length c') es.length (cellsE es) rfl (hown.alloc _) ⟨w3.heap.size + 1, 0, none⟩ 1 1 [.slice A16 a.length c16, .slice A32 b.length c32, .int .i64 (latN a)] rfl rfl (World.news_of_block (cs := #[.slice A16 a.length c16, .slice A32 b.length c32, .int .i64 (latN a)]) (t := 27) (fr := (0, 0)) (heap_new2 w3 _ _)) (by simp [Value.oneCell']) (by omega) (by unfold maxLen; omega) (by omega) (by simp; omega) (w3.heap.size + 2) (by simp) ?_; intro gg cap wa hown2 hgrow hat hlt2)
      have hal2 := (Below.refl (w3.alloc (.cells #[.slice A16 a.length c16, .slice A32 b.length c32, .int .i64 (latN a)] 27)).heap.size (w3.alloc (.cells #[.slice A16 a.length c16, .slice A32 b.length c32, .int .i64 (latN a)] 27))).alloc (Nat.le_refl _) (.cells #[.slice A16 a.length c16, .slice A32 b.length c32, .int .i64 (latN a)] 27)
      have hL5 := Lst.snoc (x := ⟨A16, c16, A32, c32, ⟨a, b, latN a⟩⟩) (HL.out.alloc (.cells #[.slice A16 a.length c16, .slice A32 b.length c32, .int .i64 (latN a)] 27)) (hT4.below hal2) hown2 hgrow
      have hT5 := (hT4.below hal2).grown (hown.alloc (.cells #[.slice A16 a.length c16, .slice A32 b.length c32, .int .i64 (latN a)] 27)) hgrow (by decide) (by decide)
      have hX5 := (hX4.alloc (.cells #[.slice A16 a.length c16, .slice A32 b.length c32, .int .i64 (latN a)] 27)).grown hgrow hne
      have hS5 := (hS4.alloc (.cells #[.slice A16 a.length c16, .slice A32 b.length c32, .int .i64 (latN a)] 27)).grown hgrow (own_bk (hown.alloc (.cells #[.slice A16 a.length c16, .slice A32 b.length c32, .int .i64 (latN a)] 27)) (hS4.alloc (.cells #[.slice A16 a.length c16, .slice A32 b.length c32, .int .i64 (latN a)] 27)).bk (by decide)) (own_ge (hown.alloc (.cells #[.slice A16 a.length c16, .slice A32 b.length c32, .int .i64 (latN a)] 27)))
      have hB5 := (hB4.alloc hB4.size (.cells #[.slice A16 a.length c16, .slice A32 b.length c32, .int .i64 (latN a)] 27)).grown hgrow (by simp; omega) (own_ge (hown.alloc (.cells #[.slice A16 a.length c16, .slice A32 b.length c32, .int .i64 (latN a)] 27)))
      clear hown hown2 hgrow hat hlt2 hT4 hX4 hS4 hB4 HL hal2
      have HP := Lib.hid (pick_any w.heap.size w.heap.size A n c q3 2 wa hS5 (by omega) (by omega) (by omega))
      go_wp2_with fail
      go_at_call 41
      refine HP.out.mono ?_
      rintro e w6 ⟨z6, rfl, p0, p1, hS6, ho6⟩
      have hneX : some w3.heap.size ≠ some w.heap.size := fun h => by injection h with h; omega
      have hL6 := hL5.only hS5.bk (by decide) (by decide) (by decide) ho6
      have hT6 := hT5.only hS5.bk (by decide) (by decide) ho6
      have hX6 := hX5.grown ho6 hneX
      have hB6 := hB5.trans (ho6.belowOf (B := w.heap.size) (Nat.le_refl _) hB5.size)
      clear HP hL5 hT5 hX5 hS5 hB5 ho6 hne
      have x0 : w6.cell? ⟨w3.heap.size, 0, none⟩ = some (.slice A16 a.length c16) := by rw [hX6.cell]; rfl
      have x1 : w6.cell? ⟨w3.heap.size, 1, none⟩ = some (.slice A32 b.length c32) := by rw [hX6.cell]; rfl
      have x2 : w6.cell? ⟨w3.heap.size, 2, none⟩ = some (.int .i64 (latN a)) := by rw [hX6.cell]; rfl
      by_cases hz6 : z6 = 0
      · subst hz6
        have HN := Lib.hid (number_any w.heap.size w.heap.size A n c (q3 + 1) A16 A32 c16 c32 a b (latN a) w6 hS6 (by omega) hT6.rd16 hT6.rd32 (by omega) (by omega))
        go_wp2_with fail
        go_at_call 40
        refine HN.out.mono ?_
        rintro e w7 ⟨z7, q7, rfl, m0, m1, hq7, hS7, ho7⟩
        have hL7 := hL6.only hS6.bk (by decide) (by decide) (by decide) ho7
        have hB7 := hB6.trans (ho7.belowOf (B := w.heap.size) (Nat.le_refl _) hB6.size)
        clear HN ho7 x0 x1 x2
        go_wp2
        go_roundw
        case rel => exact ⟨_, _, es ++ [⟨A16, c16, A32, c32, ⟨a, b, latN a⟩⟩], z7, k - 1, q7, by simp, rfl, by go_num, m0, m1, by simp; omega, by omega, hL7, hS7, hB7⟩
        case measure => simp [intOf]; omega
      · have hz6b : (z6 == 0) = false := by simp [hz6]
        clear x0 x1 x2
        go_wp2
        go_roundw
        case rel => exact ⟨_, _, es ++ [⟨A16, c16, A32, c32, ⟨a, b, latN a⟩⟩], nx, k - 1, q3 + 1, by simp, rfl, by go_num, hn0, hn1, by simp; omega, by omega, hL6, hS6, hB6⟩
        case measure => simp [intOf]; omega
    · have hkz : ¬ ((0 : Int) < (k : Int)) := by omega
      have hw : IntKind.i32.wrap nx = nx := IntWalk.i32_in _ (by omega)
      go_wp2
      exact bodyPost_ret (v := .tuple #[.int .i32 nx, .slice A' es.length c']) (by simp [results, Try.results34, go_sem]) rfl ⟨A', c', es, nx, rfl, by omega, hL, hn0, hn1, hB⟩
end Go.Proofs.Ytnhmacmpobkdoaa
