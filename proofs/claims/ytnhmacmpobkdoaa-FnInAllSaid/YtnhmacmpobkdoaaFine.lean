/- The reference's Fine: a table with strides of 1, in new memory. -/
import Derived.Test.YtnhmacmpobkdoaaEnds
namespace Go.Proofs.Ytnhmacmpobkdoaa
open Go.RowKit
set_option linter.unusedVariables false
attribute [local go_sem ↓] Go.wp_at_zero Go.wp_at_succ

theorem latN_fine (l : List Rg) : latN (fineL l) = latN l := by
  unfold latN fineL
  rw [List.filter_map, List.length_map]
  rfl
/-- A table that another call has made, stored into a new box. -/
theorem MkN.fromMade {w w0 W : World} {T Z : Nat} {bt bz : Array Value} {A A' : Option Addr} {c c' : Nat} {l m : List Rg} {n : Int} (hw : Below w.heap.size w w0) (hT : Bk w0 T 27 bt) (hZ : Bk w0 Z 27 bz) (hwZ : w.heap.size ≤ Z) (hb : Below w0.heap.size w0 W)
    (h16 : W.ownsRow w0.heap.size 39 3 (.slice A l.length c) l.length (cellsL .u16 l)) (h32 : W.ownsRow w0.heap.size 65 3 (.slice A' m.length c') m.length (cellsL .u32 m)) (f16 : Wf 65536 l) (f32 : Wf 4294967296 m) :
    MkN w T Z W.heap.size bt bz A c l A' c' m n (W.alloc (.cells #[.slice A l.length c, .slice A' m.length c', .int .i64 n] 27)) := by
  have hTl := hT.lt
  have hZl := hZ.lt
  have hs := hb.size
  have hb3 := bel_alloc (o := .cells #[.slice A l.length c, .slice A' m.length c', .int .i64 n] 27) hb
  exact ⟨⟨hT.below hb3 hTl, hZ.below hb3 hZl, by omega, by omega, hwZ, by have := hw.size; omega⟩, Bk.new _ _ _, own_mono (h16.alloc _) hw.size, own_mono (h32.alloc _) hw.size, f16, f32, hw.trans (hb3.mono hw.size)⟩

set_option maxHeartbeats 4000000 in
set_option maxRecDepth 100000 in
theorem fine_any (A16 A32 : Option Addr) (c16 c32 : Nat) (a b : List Rg) (n : Int) (w : World) (la : a.length ≤ 40) (lb : b.length ≤ 40)
    (ra : Rd w w.heap.size .u16 65536 A16 a) (rb : Rd w w.heap.size .u32 4294967296 A32 b) (sa : Stp a) (sb : Stp b) (na : A16 = none → a.length = 0 ∧ c16 = 0) (nb : A32 = none → b.length = 0 ∧ c32 = 0) :
    Calls Try.prog 24 #[.agg #[.slice A16 a.length c16, .slice A32 b.length c32, .int .i64 n]] w (Made w (fineL (endsL a)) (fineL (endsL b))) := by
  have hT0 := (Bk.new w 27 #[.slice A16 a.length c16, .slice A32 b.length c32, .int .i64 n]).alloc (.cells #[.slice none 0 0, .slice none 0 0, .int .i64 0] 27)
  have hZ0 := bk_at (W := w.alloc (.cells #[.slice A16 a.length c16, .slice A32 b.length c32, .int .i64 n] 27)) (k := w.heap.size + 1) (by simp) 27 #[.slice none 0 0, .slice none 0 0, .int .i64 0]
  have hb0 := ((Below.refl w.heap.size w).alloc (Nat.le_refl _) (.cells #[.slice A16 a.length c16, .slice A32 b.length c32, .int .i64 n] 27)).alloc (by simp) (.cells #[.slice none 0 0, .slice none 0 0, .int .i64 0] 27)
  have ra0 := ra.to hb0
  have rb0 := rb.to hb0
  have HE := Lib.hid (ends_any A16 A32 c16 c32 a b n _ la lb ra0 rb0 sa sb na nb)
  clear ra0 rb0
  go_enter Try.func24, Try.ntmps24
  go_wp2_with fail
  go_at_call 23
  refine HE.out.mono ?_
  rintro e w1 ⟨A, c, A', c', rfl, o16, o32, f16, f32, hb1⟩
  clear HE
  have hla : (endsL a).length = a.length := by unfold endsL; exact List.length_map _
  have hlb : (endsL b).length = b.length := by unfold endsL; exact List.length_map _
  have hlat : latN (endsL a) = latN (fineL (endsL a)) := (latN_fine _).symm
  generalize endsL a = p at *
  generalize endsL b = q at *
  generalize hW : (w.alloc (.cells #[.slice A16 a.length c16, .slice A32 b.length c32, .int .i64 n] 27)).alloc (.cells #[.slice none 0 0, .slice none 0 0, .int .i64 0] 27) = w0 at *
  clear hW
  have hN := (MkN.fromMade (n := latN p) hb0 hT0 hZ0 (by omega) hb1 o16 o32 f16 f32)
  clear hT0 hZ0 hb0 o16 o32 f16 f32 hb1
  have lp : p.length ≤ 40 := by omega
  have lq : q.length ≤ 40 := by omega
  have HLAT := Lib.hid hlat; clear hla hlb hlat
  have hX0 := hN.bkX.lt
  go_wp2
  generalize hX : w1.heap.size = X at *
  clear hX
  go_loopw [4] (fun s wr => ∃ (i : Nat), i ≤ p.length ∧ s = .int .i64 (i : Int) ∧ MkN w w.heap.size (w.heap.size + 1) X #[.slice A16 a.length c16, .slice A32 b.length c32, .int .i64 n] #[.slice none 0 0, .slice none 0 0, .int .i64 0] A c (mixL fine1 p i) A' c' q (latN p) wr) (fun s _ => p.length - (intOf s).toNat)
  case atStart => exact ⟨0, Nat.zero_le _, rfl, by rw [mixL_zero]; exact hN⟩
  case round =>
    clear hN
    obtain ⟨i, hi, rfl, hN⟩ := hrel
    have x0 : wr.cell? ⟨X, 0, none⟩ = some (.slice A p.length c) := by have := hN.bkX.cell 0; simp only [mixL_length] at this; exact this
    by_cases hlt : i < p.length
    · obtain ⟨g, rfl, hgl, hgT, hgZ, hgX⟩ := hN.form16 (by rw [mixL_length]; omega)
      obtain ⟨x, hx⟩ : ∃ x, p[i]? = some x := ⟨_, List.getElem?_eq_getElem hlt⟩
      have hxm := (mixL_at fine1 hlt).trans hx
      obtain ⟨p0, p1, p2, pf, d1, d2, d3, d4, d5, d6⟩ := hN.at16 hxm
      obtain ⟨s0, s1, s2⟩ := cellsL_set .u16 1 (mixL fine1 p i) i x hxm
      have hN1 := hN.set16 s2 ⟨by first | omega | (simp only; omega), by first | omega | (simp only; omega), by first | omega | (simp only; omega), by first | omega | (simp only; omega), by first | omega | (simp only; omega), by first | omega | (simp only; omega)⟩
      have hms : (mixL fine1 p i).set i ⟨x.lo, x.hi, 1⟩ = mixL fine1 p (i + 1) := mixL_set fine1 hx
      rw [hms] at hN1
      have HN1 := Lib.hid hN1; clear s0 s1 s2 hN1 hms hx hxm hN
      go_wp2
      go_roundw
      case rel => exact ⟨i + 1, by omega, by go_num, HN1.out⟩
      case measure => simp [intOf]; omega
    · have hlz : ¬ ((i : Int) < (p.length : Int)) := by omega
      rw [mixL_end fine1 hi hlt] at hN
      have HN0 := Lib.hid hN; clear hN
      go_wp2
      clear x0 hlz hi hlt
      go_loopw [5] (fun s wr => ∃ (i : Nat), i ≤ q.length ∧ s = .int .i64 (i : Int) ∧ MkN w w.heap.size (w.heap.size + 1) X #[.slice A16 a.length c16, .slice A32 b.length c32, .int .i64 n] #[.slice none 0 0, .slice none 0 0, .int .i64 0] A c (p.map fine1) A' c' (mixL fine1 q i) (latN p) wr) (fun s _ => q.length - (intOf s).toNat)
      case atStart => exact ⟨0, Nat.zero_le _, rfl, by rw [mixL_zero]; exact HN0.out⟩
      case round =>
        clear HN0
        obtain ⟨i, hi, rfl, hN⟩ := hrel
        have x0 : wr.cell? ⟨X, 1, none⟩ = some (.slice A' q.length c') := by have := hN.bkX.cell 1; simp only [mixL_length] at this; exact this
        by_cases hlt : i < q.length
        · obtain ⟨g, rfl, hgl, hgT, hgZ, hgX⟩ := hN.form32 (by rw [mixL_length]; omega)
          obtain ⟨x, hx⟩ : ∃ x, q[i]? = some x := ⟨_, List.getElem?_eq_getElem hlt⟩
          have hxm := (mixL_at fine1 hlt).trans hx
          obtain ⟨p0, p1, p2, pf, d1, d2, d3, d4, d5, d6⟩ := hN.at32 hxm
          obtain ⟨s0, s1, s2⟩ := cellsL_set .u32 1 (mixL fine1 q i) i x hxm
          have hN1 := hN.set32 s2 ⟨by first | omega | (simp only; omega), by first | omega | (simp only; omega), by first | omega | (simp only; omega), by first | omega | (simp only; omega), by first | omega | (simp only; omega), by first | omega | (simp only; omega)⟩
          have hms : (mixL fine1 q i).set i ⟨x.lo, x.hi, 1⟩ = mixL fine1 q (i + 1) := mixL_set fine1 hx
          rw [hms] at hN1
          have HN1 := Lib.hid hN1; clear s0 s1 s2 hN1 hms hx hxm hN
          go_wp2
          go_roundw
          case rel => exact ⟨i + 1, by omega, by go_num, HN1.out⟩
          case measure => simp [intOf]; omega
        · have hlz : ¬ ((i : Int) < (q.length : Int)) := by omega
          rw [mixL_end fine1 hi hlt] at hN
          have z0 : wr.cell? ⟨w.heap.size + 1, 0, none⟩ = some (.slice none 0 0) := hN.bkZ.cell 0
          have z1 : wr.cell? ⟨w.heap.size + 1, 1, none⟩ = some (.slice none 0 0) := hN.bkZ.cell 1
          have z2 : wr.cell? ⟨w.heap.size + 1, 2, none⟩ = some (.int .i64 0) := hN.bkZ.cell 2
          have zf : ∀ i, wr.frozen? ⟨w.heap.size + 1, i, none⟩ = false := fun i => hN.bkZ.frozen i
          have q0 : wr.cell? ⟨X, 0, none⟩ = some (.slice A p.length c) := by have := hN.bkX.cell 0; simp only [List.length_map] at this; exact this
          have q2 : wr.cell? ⟨X, 2, none⟩ = some (.int .i64 (latN p)) := hN.bkX.cell 2
          have HD := Lib.hid (hN.ret (L := p.length) (M := q.length) (List.length_map _) (List.length_map _) HLAT.out)
          clear hN
          go_wp2
          obtain ⟨e0, e1, e2, hD⟩ := HD.out
          exact bodyPost_ret (v := .agg #[.slice A p.length c, .slice A' q.length c', .int .i64 (latN p)]) (by simp [results, Try.results24, go_sem, e0, e1, e2]) rfl hD
end Go.Proofs.Ytnhmacmpobkdoaa
