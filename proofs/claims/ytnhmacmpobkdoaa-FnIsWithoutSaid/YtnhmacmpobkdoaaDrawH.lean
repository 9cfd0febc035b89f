/- The generator DrawRange: a table in new memory, an index, and a number of 32 bits; nothing that was there is changed. -/
import Derived.Test.YtnhmacmpobkdoaaDrawG
namespace Go.Proofs.Ytnhmacmpobkdoaa
open Go.RowKit
set_option linter.unusedVariables false

/-- What DrawRange leaves. -/
def DrewRange (w : World) (e : Ending) (w' : World) : Prop :=
  ∃ (A16 : Option Addr) (c16 : Nat) (A32 : Option Addr) (c32 : Nat) (a b : List Rg) (tn r : Int) (k : Nat), e = .returned (.tuple #[.agg #[.slice A16 a.length c16, .slice A32 b.length c32, .int .i64 tn], .int .i64 (k : Int), .int .i32 r]) ∧
    k ≤ a.length + b.length ∧ TabO w' w.heap.size A16 c16 A32 c32 a b ∧ -2147483648 ≤ r ∧ r ≤ 2147483647 ∧ Below w.heap.size w w'

set_option maxHeartbeats 4000000 in
set_option maxRecDepth 100000 in
theorem drawRange_any (A : Option Addr) (n c : Nat) (w : World) (hn : n ≤ 1048576) (hA : RdB w w.heap.size A n) :
    Calls Try.prog 32 #[.slice A n c] w (DrewRange w) := by
  have hX := (Bk.new w 27 #[.slice none 0 0, .slice none 0 0, .int .i64 0]).alloc (.cells #[.slice A n c, .int .i64 0] 59)
  have hRb : Bk ((w.alloc (.cells #[.slice none 0 0, .slice none 0 0, .int .i64 0] 27)).alloc (.cells #[.slice A n c, .int .i64 0] 59)) (w.heap.size + 1) 59 #[.slice A n c, .int .i64 ((0 : Nat) : Int)] := heap_new2 w _ _
  have hb0 := ((Below.refl w.heap.size w).alloc (Nat.le_refl _) (.cells #[.slice none 0 0, .slice none 0 0, .int .i64 0] 27)).alloc (by simp) (.cells #[.slice A n c, .int .i64 0] 59)
  have hS : St ((w.alloc (.cells #[.slice none 0 0, .slice none 0 0, .int .i64 0] 27)).alloc (.cells #[.slice A n c, .int .i64 0] 59)) (w.heap.size + 1) w.heap.size A n c 0 := ⟨by omega, hRb, hA.keep fun p hp => hb0.cell hp, hn⟩
  have HT := Lib.hid (drawTable_any (w.heap.size + 1) w.heap.size A n c 0 _ hS (by omega))
  have hsz : ((w.alloc (.cells #[.slice none 0 0, .slice none 0 0, .int .i64 0] 27)).alloc (.cells #[.slice A n c, .int .i64 0] 59)).heap.size = w.heap.size + 2 := by simp
  have hneX : some w.heap.size ≠ some (w.heap.size + 1) := fun h => by injection h; omega
  clear hRb hS
  go_enter Try.func32, Try.ntmps32
  go_wp2_with fail
  go_at_call 39
  refine HT.out.mono ?_
  rintro e w1 ⟨A16, c16, A32, c32, a, b, q1, rfl, hT1, hq1, hS1, ho1⟩
  have hX1 := hX.grown ho1 hneX
  have hb1 := hb0.trans (ho1.belowOf (B := w.heap.size) (by omega) (by rw [hsz]; omega))
  rw [hsz] at hT1
  clear HT hX hb0 hsz ho1
  have hsz1 := hS1.lt
  have hal := (Below.refl w1.heap.size w1).alloc (Nat.le_refl _) (.cells #[.slice A16 a.length c16, .slice A32 b.length c32, .int .i64 (latN a)] 27)
  have hT1a := hT1.below hal
  have hS1a := hS1.below hal
  have hX1a := hX1.below hal hX1.lt
  have hb1a := hb1.trans (hal.mono (by omega))
  have hBt := Bk.new w1 27 #[.slice A16 a.length c16, .slice A32 b.length c32, .int .i64 (latN a)]
  have hla := hT1.2.2.2.2.1
  have hlb := hT1.2.2.2.2.2
  have hneB : some w1.heap.size ≠ some (w.heap.size + 1) := fun h => by injection h; omega
  have hneXB : w.heap.size ≠ w1.heap.size := by omega
  have keepS : ∀ w', Bk w' w1.heap.size 27 #[.slice A16 a.length c16, .slice A32 b.length c32, .int .i64 (latN a)] → w'.cell? ⟨w1.heap.size, 0, none⟩ = some (.slice A16 a.length c16) ∧ w'.cell? ⟨w1.heap.size, 1, none⟩ = some (.slice A32 b.length c32) ∧ w'.cell? ⟨w1.heap.size, 2, none⟩ = some (.int .i64 (latN a)) := fun w' h => ⟨by rw [h.cell]; rfl, by rw [h.cell]; rfl, by rw [h.cell]; rfl⟩
  have KS := Lib.hid keepS; clear keepS
  have hsza : (w1.alloc (.cells #[.slice A16 a.length c16, .slice A32 b.length c32, .int .i64 (latN a)] 27)).heap.size = w1.heap.size + 1 := by simp
  have hw1 : IntKind.i64.wrap ((a.length : Int) + (b.length : Int)) = (a.length : Int) + (b.length : Int) := IntWalk.i64_in _ (by omega)
  have hw2 : IntKind.i64.wrap ((a.length : Int) + (b.length : Int) + 1) = (a.length : Int) + (b.length : Int) + 1 := IntWalk.i64_in _ (by omega)
  clear hT1 hS1 hX1 hb1 hal
  go_wp2_with fail
  generalize hW : w1.alloc (.cells #[.slice A16 a.length c16, .slice A32 b.length c32, .int .i64 (latN a)] 27) = W at *
  have HW := Lib.hid hW; clear hW
  have HP := Lib.hid (pick_any (w.heap.size + 1) w.heap.size A n c q1 ((a.length : Int) + (b.length : Int) + 1) W.drew hS1a (by omega) (by omega) (by omega))
  obtain ⟨y0, y1, y2⟩ := KS.out W hBt
  go_region_held3 (fun w' => w'.cell? ⟨w1.heap.size, 0, none⟩ = some (.slice A16 a.length c16) ∧ w'.cell? ⟨w1.heap.size, 1, none⟩ = some (.slice A32 b.length c32) ∧ w'.cell? ⟨w1.heap.size, 2, none⟩ = some (.int .i64 (latN a)))
    (first
      | exact KS.out _ hBt.drew
      | exact KS.out _ hBtp
      | exact KS.out _ hBtn
      | exact KS.out _ (((hBtn.far (p := ⟨w.heap.size, 0, none⟩) hneXB.symm _).far (p := ⟨w.heap.size, 1, none⟩) hneXB.symm _).far (p := ⟨w.heap.size, 2, none⟩) hneXB.symm _))
    (first
      | (go_at_call 41; refine HP.out.mono ?_; rintro e wp ⟨k, rfl, k0, k1, hSp, hop⟩; have hBtp := hBt.drew.grown hop hneB)
      | (go_at_call 40; refine (number_any (w.heap.size + 1) w.heap.size A n c (q1 + 1) A16 A32 c16 c32 a b (latN a) wp hSp (by omega) ((hT1a.below (Below.refl _ _).drew).only hS1a.drew.bk (by decide) (by decide) hop).rd16 ((hT1a.below (Below.refl _ _).drew).only hS1a.drew.bk (by decide) (by decide) hop).rd32 (by omega) (by omega)).mono ?_; rintro e wn ⟨r, q2, rfl, hr0, hr1, hq2, hSn, hon⟩; have hBtn := hBtp.grown hon hneB; have hXn := (hX1a.drew.grown hop hneX).grown hon hneX; have x0 : wn.cell? ⟨w.heap.size, 0, none⟩ = some (.slice none 0 0) := (by rw [hXn.cell]; rfl); have x1 : wn.cell? ⟨w.heap.size, 1, none⟩ = some (.slice none 0 0) := (by rw [hXn.cell]; rfl); have x2 : wn.cell? ⟨w.heap.size, 2, none⟩ = some (.int .i64 0) := (by rw [hXn.cell]; rfl); have xf : ∀ i, wn.frozen? ⟨w.heap.size, i, none⟩ = false := (fun i => hXn.frozen i)))
  go_wp2
  obtain ⟨m, rfl⟩ := Int.eq_ofNat_of_zero_le k0
  have hTp := (hT1a.below (Below.refl _ _).drew).only hS1a.drew.bk (by decide) (by decide) hop
  have hTn := (hTp.only hSp.bk (by decide) (by decide) hon).mono (base' := w.heap.size) (by omega)
  have hbp := hb1a.drew.trans (hop.belowOf (B := w.heap.size) (by omega) hb1a.size)
  have hbn := hbp.trans (hon.belowOf (B := w.heap.size) (by omega) hbp.size)
  have o3 := (((Only.refl w.heap.size wn).store 0 (.slice A16 a.length c16)).store 1 (.slice A32 b.length c32)).store 2 (.int .i64 (latN a))
  have hf := ((hXn.set_ 0 (.slice A16 a.length c16)).set_ 1 (.slice A32 b.length c32)).set_ 2 (.int .i64 (latN a))
  have e0 : World.cell? _ ⟨w.heap.size, 0, none⟩ = some (.slice A16 a.length c16) := hf.cell 0
  have e1 : World.cell? _ ⟨w.heap.size, 1, none⟩ = some (.slice A32 b.length c32) := hf.cell 1
  have e2 : World.cell? _ ⟨w.heap.size, 2, none⟩ = some (.int .i64 (latN a)) := hf.cell 2
  exact bodyPost_ret (v := .tuple #[.agg #[.slice A16 a.length c16, .slice A32 b.length c32, .int .i64 (latN a)], .int .i64 (m : Int), .int .i32 r]) (by simp [results, Try.results32, go_sem, e0, e1, e2]) rfl
    ⟨A16, c16, A32, c32, a, b, latN a, r, m, rfl, by omega, hTn.only hXn (by decide) (by decide) o3, hr0, hr1, ((hbn.setCell (p := ⟨w.heap.size, 0, none⟩) (Nat.le_refl _) _).setCell (p := ⟨w.heap.size, 1, none⟩) (Nat.le_refl _) _).setCell (p := ⟨w.heap.size, 2, none⟩) (Nat.le_refl _) _⟩
end Go.Proofs.Ytnhmacmpobkdoaa
