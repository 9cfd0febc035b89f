/- The generators' number: a number of 32 bits; nothing that was there is changed but the reader. -/
import Derived.Test.YtnhmacmpobkdoaaDrawE
import Derived.Deep.RegionHeld3
import Derived.WalkLawsBesides
namespace Go.Proofs.Ytnhmacmpobkdoaa
open Go.RowKit
set_option linter.unusedVariables false

theorem info_int : (Try.prog.info? 3).map (fun i => (i.zero, i.size, i.bytes)) = some (some (.int .i64 0), 1, 8) := by kernel_rfl

/-- All numbers of a list are small. -/
def Small (zs : List Int) : Prop := ∀ z ∈ zs, -17179869184 ≤ z ∧ z ≤ 17179869184
theorem Small.snoc3 {zs : List Int} (h : Small zs) {x y z : Int} (hx : -17179869184 ≤ x ∧ x ≤ 17179869184) (hy : -17179869184 ≤ y ∧ y ≤ 17179869184) (hz : -17179869184 ≤ z ∧ z ≤ 17179869184) : Small (zs ++ [x, y, z]) := by
  intro u hu
  rcases List.mem_append.1 hu with hu | hu
  · exact h u hu
  · simp only [List.mem_cons, List.not_mem_nil, or_false] at hu
    rcases hu with rfl | rfl | rfl <;> assumption

/-- The numbers gathered so far, in a row of the call's own; the table's box. -/
def Num (w : World) (cs : Array Value) (A' : Option Addr) (c' : Nat) (zs : List Int) (wr : World) : Prop :=
  wr.ownsRow w.heap.size 3 1 (.slice A' zs.length c') zs.length (zs.map (Value.int .i64)) ∧ Small zs ∧ Bk wr w.heap.size 27 cs ∧ Below w.heap.size w wr
theorem Num.snoc {w : World} {cs : Array Value} {A' : Option Addr} {c' : Nat} {zs : List Int} {wr w1 : World} {g cap : Nat} {x y z : Int} (h : Num w cs A' c' zs wr) (hx : -17179869184 ≤ x ∧ x ≤ 17179869184) (hy : -17179869184 ≤ y ∧ y ≤ 17179869184) (hz : -17179869184 ≤ z ∧ z ≤ 17179869184)
    (hown : w1.ownsRow w.heap.size 3 1 (.slice (some ⟨g, 0, none⟩) (zs.length + 3) cap) (zs.length + 3) (zs.map (Value.int .i64) ++ [.int .i64 x, .int .i64 y, .int .i64 z])) (hgrow : wr.grownBy w1 (Value.slice A' zs.length c').ownBlock) :
    Num w cs (some ⟨g, 0, none⟩) cap (zs ++ [x, y, z]) w1 := by
  refine ⟨?_, h.2.1.snoc3 hx hy hz, h.2.2.1.grown hgrow (own_bk h.1 h.2.2.1 (by decide)), h.2.2.2.grown hgrow h.2.2.2.size (own_ge h.1)⟩
  rw [List.map_append, List.length_append]
  exact hown
theorem Num.alloc {w : World} {cs : Array Value} {A' : Option Addr} {c' : Nat} {zs : List Int} {wr : World} (h : Num w cs A' c' zs wr) (o : Obj) : Num w cs A' c' zs (wr.alloc o) := ⟨h.1.alloc o, h.2.1, h.2.2.1.alloc o, h.2.2.2.alloc h.2.2.2.size o⟩
theorem Num.drew {w : World} {cs : Array Value} {A' : Option Addr} {c' : Nat} {zs : List Int} {wr : World} (h : Num w cs A' c' zs wr) : Num w cs A' c' zs wr.drew := ⟨h.1.drew, h.2.1, h.2.2.1, h.2.2.2.drew⟩

/-- One of the numbers of a row. -/
theorem num_at {w : World} {base : Nat} {gb c' : Nat} {zs : List Int} {m : Nat} (h : w.ownsRow base 3 1 (.slice (some ⟨gb, 0, none⟩) zs.length c') zs.length (zs.map (Value.int .i64))) (hs : Small zs) (hm : m < zs.length) :
    ∃ y : Int, zs[m]? = some y ∧ w.cell? ⟨gb, m, none⟩ = some (.int .i64 y) ∧ -17179869184 ≤ y ∧ y ≤ 17179869184 := by
  have hx : zs[m]? = some zs[m] := List.getElem?_eq_getElem hm
  have hc := h.cells (g := gb) rfl m (.int .i64 zs[m]) (by rw [List.getElem?_map, hx]; rfl)
  have ad : (⟨gb, 0, none⟩ : Addr).add m = ⟨gb, m, none⟩ := by unfold Addr.add; split <;> simp_all
  rw [ad] at hc
  exact ⟨zs[m], hx, hc, hs _ (List.getElem_mem hm)⟩

/-- What number leaves. -/
def Numbered (w : World) (R base : Nat) (A : Option Addr) (n c q : Nat) (e : Ending) (w' : World) : Prop :=
  ∃ (k : Int) (q' : Nat), e = .returned (.int .i32 k) ∧ -2147483648 ≤ k ∧ k ≤ 2147483647 ∧ q' ≤ q + 4 ∧ St w' R base A n c q' ∧ Only R w w'

set_option maxHeartbeats 4000000 in
set_option maxRecDepth 100000 in
theorem number_any (R base : Nat) (A : Option Addr) (n c q : Nat) (A16 A32 : Option Addr) (c16 c32 : Nat) (a b : List Rg) (tn : Int) (w : World) (hS : St w R base A n c q) (hq : q ≤ 1099511600000)
    (ra : Rd w w.heap.size .u16 65536 A16 a) (rb : Rd w w.heap.size .u32 4294967296 A32 b) (la : a.length ≤ 1000) (lb : b.length ≤ 1000) :
    Calls Try.prog 40 #[.pointer (some ⟨R, 0, none⟩), .agg #[.slice A16 a.length c16, .slice A32 b.length c32, .int .i64 tn]] w (Numbered w R base A n c q) := by
  obtain ⟨i0, hi0, hz0, hz1, hz2⟩ := info_parts info_int
  have HS := Lib.hid hS; clear hS
  go_enter Try.func40, Try.ntmps40
  go_wp2_with fail
  go_loopw [5, 6] (fun s5 s6 wr => ∃ (A' : Option Addr) (c' : Nat) (zs : List Int) (i : Nat), s5 = .slice A' zs.length c' ∧ s6 = .int .i64 (i : Int) ∧ i ≤ a.length ∧ 10 ≤ zs.length ∧ zs.length ≤ 10 + 3 * i ∧ Num w #[.slice A16 a.length c16, .slice A32 b.length c32, .int .i64 tn] A' c' zs wr) (fun _ s6 _ => a.length - (intOf s6).toNat)
  case atStart =>
    refine ⟨some ⟨w.heap.size + 1, 0, none⟩, 10, [0, 255, 256, 65535, 65536, 1114111, 1114112, (-1), 2147483647, (-2147483648)], 0, rfl, rfl, Nat.zero_le _, by simp, by simp, ?_, ?_, (Bk.new _ _ _).alloc _, ((Below.refl _ _).alloc (Nat.le_refl _) _).alloc (by simp) _⟩
    · exact ⟨rfl, .inr ⟨w.heap.size + 1, 10, #[.int .i64 0, .int .i64 255, .int .i64 256, .int .i64 65535, .int .i64 65536, .int .i64 1114111, .int .i64 1114112, .int .i64 (-1), .int .i64 2147483647, .int .i64 (-2147483648)], rfl, by omega, heap_new2 w _ _, Nat.le_refl _, by unfold maxLen; omega, rfl, rfl⟩⟩
    · intro z hz; simp at hz; omega
  case round =>
    obtain ⟨A', c', zs, i, rfl, rfl, hi, hz10, hzi, hN⟩ := hrel
    have hbx := hN.2.2.1
    have hbel := hN.2.2.2
    have hsz := hbx.lt
    have k0 : wr.cell? ⟨w.heap.size, 0, none⟩ = some (.slice A16 a.length c16) := by rw [hbx.cell]; rfl
    have k1 : wr.cell? ⟨w.heap.size, 1, none⟩ = some (.slice A32 b.length c32) := by rw [hbx.cell]; rfl
    by_cases hlt : i < a.length
    · obtain ⟨b0, off, x, rfl, hb, hx, c0, c1, c2, b1, b2, b3, b4, b5, b6⟩ := (ra.below hbel).at_ hlt
      clear hx
      have hz1i : (0 : Int) ≤ (i : Int) := by omega
      have hz2i : (i : Int) < (a.length : Int) := by omega
      have keepS : ∀ o w1, ((wr.alloc o).drew).grownBy w1 (Value.slice A' zs.length c').ownBlock → w1.cell? ⟨w.heap.size, 0, none⟩ = some (.slice (some ⟨b0, off, none⟩) a.length c16) ∧ w1.cell? ⟨b0, off + i * 3, none⟩ = some (.int .u16 x.lo) ∧ w1.cell? ⟨b0, off + i * 3 + 1, none⟩ = some (.int .u16 x.hi) ∧ w1.cell? ⟨b0, off + i * 3 + 2, none⟩ = some (.int .u16 x.st) := fun o w1 hg => by
        have hN1 := (hN.alloc o).drew
        have hb0 : b0 < (wr.alloc o).drew.heap.size := by show b0 < (wr.alloc o).heap.size; simp; omega
        have hf : ∀ j, w1.cell? ⟨b0, j, none⟩ = wr.cell? ⟨b0, j, none⟩ := fun j => by
          rw [hg.cell_far ⟨b0, j, none⟩ hb0 (own_far hN1.1 hb)]
          exact World.cell?_alloc_lt wr o _ (by show b0 < wr.heap.size; omega)
        refine ⟨?_, by rw [hf]; exact c0, by rw [hf]; exact c1, by rw [hf]; exact c2⟩
        have := Bk.grown hN1.2.2.1 hg (own_bk hN1.1 hN1.2.2.1 (by decide))
        rw [this.cell]; rfl
      have KS := Lib.hid keepS; clear keepS
      obtain ⟨sm, hsm⟩ : ∃ sm : Int, x.lo + x.st = sm := ⟨_, rfl⟩
      have hs0 : 0 ≤ sm := by omega
      have hs1 : sm ≤ 200000 := by omega
      have hsw : IntKind.i64.wrap (x.lo + x.st) = sm := by rw [hsm]; exact IntWalk.i64_in _ (by omega)
      have hwl : IntKind.i64.wrap x.lo = x.lo := IntWalk.i64_in _ (by omega)
      have hwh : IntKind.i64.wrap x.hi = x.hi := IntWalk.i64_in _ (by omega)
      have hws : IntKind.i64.wrap x.st = x.st := IntWalk.i64_in _ (by omega)
      have HN := Lib.hid hN
      have hown := hN.1
      clear hN hsm hbx
      go_wp2_with fail
      go_region_held3 (fun w' => w'.cell? ⟨w.heap.size, 0, none⟩ = some (.slice (some ⟨b0, off, none⟩) a.length c16) ∧ w'.cell? ⟨b0, off + i * 3, none⟩ = some (.int .u16 x.lo) ∧ w'.cell? ⟨b0, off + i * 3 + 1, none⟩ = some (.int .u16 x.hi) ∧ w'.cell? ⟨b0, off + i * 3 + 2, none⟩ = some (.int .u16 x.st))
        (first
          | go_keep
          | exact KS.out _ _ (World.grownBy.refl _ _)
          | exact KS.out _ _ hgrow)
        ((refine step_append_lies _ (by rfl) _ _ _ (by rfl) w.heap.size 3 i0 _ 1 8 Try.underlying72 hi0 hz0 hz1 hz2 rfl (by omega) (.slice A' zs.length c') zs.length (zs.map (Value.int .i64)) (by rfl) ((hown.alloc _).drew) ⟨wr.heap.size, 0, none⟩ 3 3 [.int .i64 x.lo, .int .i64 x.hi, .int .i64 sm] (by rfl) (by rfl) (World.news_of_block (cs := #[.int .i64 x.lo, .int .i64 x.hi, .int .i64 sm]) (t := 3) (fr := (0, 0)) (heap_alloc_new wr _)) (by simp [Value.oneCell']) (by omega) (by unfold maxLen; omega) (by omega) (by simp; omega) (wr.heap.size + 1) (by simp) ?_; intro gg cap w1 hown1 hgrow hat hlt1))
      clear hsw hwl hwh hws
      have hR := Num.snoc ((HN.out.alloc _).drew) ⟨by omega, by omega⟩ ⟨by omega, by omega⟩ ⟨by omega, by omega⟩ hown1 hgrow
      clear hown hown1 hgrow hat
      go_wp2
      go_roundw
      case rel => exact ⟨_, _, zs ++ [x.lo, x.hi, sm], i + 1, by simp, by go_num, by omega, by simp; omega, by simp; omega, hR⟩
      case measure => simp [intOf]; omega
    · have HN0 := Lib.hid hN
      clear hN hbx
      go_wp2_with fail
      go_loopw [5, 7] (fun s5 s6 wr => ∃ (A' : Option Addr) (c' : Nat) (zs : List Int) (i : Nat), s5 = .slice A' zs.length c' ∧ s6 = .int .i64 (i : Int) ∧ i ≤ b.length ∧ 10 ≤ zs.length ∧ zs.length ≤ 3010 + 3 * i ∧ Num w #[.slice A16 a.length c16, .slice A32 b.length c32, .int .i64 tn] A' c' zs wr) (fun _ s6 _ => b.length - (intOf s6).toNat)
      case atStart => exact ⟨A', c', zs, 0, rfl, rfl, Nat.zero_le _, hz10, by omega, HN0.out⟩
      case round =>
        clear hz10 hzi hsz hbel k0 k1 hlt HN0
        obtain ⟨A', c', zs, i, rfl, rfl, hi, hz10, hzi, hN⟩ := hrel
        have hbx := hN.2.2.1
        have hbel := hN.2.2.2
        have hsz := hbx.lt
        have k0 : wr.cell? ⟨w.heap.size, 0, none⟩ = some (.slice A16 a.length c16) := by rw [hbx.cell]; rfl
        have k1 : wr.cell? ⟨w.heap.size, 1, none⟩ = some (.slice A32 b.length c32) := by rw [hbx.cell]; rfl
        by_cases hlt : i < b.length
        · obtain ⟨b0, off, x, rfl, hb, hx, c0, c1, c2, b1, b2, b3, b4, b5, b6⟩ := (rb.below hbel).at_ hlt
          clear hx
          have hz1i : (0 : Int) ≤ (i : Int) := by omega
          have hz2i : (i : Int) < (b.length : Int) := by omega
          have keepS : ∀ o w1, ((wr.alloc o).drew).grownBy w1 (Value.slice A' zs.length c').ownBlock → w1.cell? ⟨w.heap.size, 1, none⟩ = some (.slice (some ⟨b0, off, none⟩) b.length c32) ∧ w1.cell? ⟨b0, off + i * 3, none⟩ = some (.int .u32 x.lo) ∧ w1.cell? ⟨b0, off + i * 3 + 1, none⟩ = some (.int .u32 x.hi) ∧ w1.cell? ⟨b0, off + i * 3 + 2, none⟩ = some (.int .u32 x.st) := fun o w1 hg => by
            have hN1 := (hN.alloc o).drew
            have hb0 : b0 < (wr.alloc o).drew.heap.size := by show b0 < (wr.alloc o).heap.size; simp; omega
            have hf : ∀ j, w1.cell? ⟨b0, j, none⟩ = wr.cell? ⟨b0, j, none⟩ := fun j => by
              rw [hg.cell_far ⟨b0, j, none⟩ hb0 (own_far hN1.1 hb)]
              exact World.cell?_alloc_lt wr o _ (by show b0 < wr.heap.size; omega)
            refine ⟨?_, by rw [hf]; exact c0, by rw [hf]; exact c1, by rw [hf]; exact c2⟩
            have := Bk.grown hN1.2.2.1 hg (own_bk hN1.1 hN1.2.2.1 (by decide))
            rw [this.cell]; rfl
          have KS := Lib.hid keepS; clear keepS
          obtain ⟨sm, hsm⟩ : ∃ sm : Int, x.lo + x.st = sm := ⟨_, rfl⟩
          have hs0 : 0 ≤ sm := by omega
          have hs1 : sm ≤ 8589934592 := by omega
          have hsw : IntKind.i64.wrap (x.lo + x.st) = sm := by rw [hsm]; exact IntWalk.i64_in _ (by omega)
          have hwl : IntKind.i64.wrap x.lo = x.lo := IntWalk.i64_in _ (by omega)
          have hwh : IntKind.i64.wrap x.hi = x.hi := IntWalk.i64_in _ (by omega)
          have hws : IntKind.i64.wrap x.st = x.st := IntWalk.i64_in _ (by omega)
          have HN := Lib.hid hN
          have hown := hN.1
          clear hN hsm hbx
          go_wp2_with fail
          go_region_held3 (fun w' => w'.cell? ⟨w.heap.size, 1, none⟩ = some (.slice (some ⟨b0, off, none⟩) b.length c32) ∧ w'.cell? ⟨b0, off + i * 3, none⟩ = some (.int .u32 x.lo) ∧ w'.cell? ⟨b0, off + i * 3 + 1, none⟩ = some (.int .u32 x.hi) ∧ w'.cell? ⟨b0, off + i * 3 + 2, none⟩ = some (.int .u32 x.st))
            (first
              | go_keep
              | exact KS.out _ _ (World.grownBy.refl _ _)
              | exact KS.out _ _ hgrow)
            ((refine step_append_lies _ (by rfl) _ _ _ (by rfl) w.heap.size 3 i0 _ 1 8 Try.underlying72 hi0 hz0 hz1 hz2 rfl (by omega) (.slice A' zs.length c') zs.length (zs.map (Value.int .i64)) (by rfl) ((hown.alloc _).drew) ⟨wr.heap.size, 0, none⟩ 3 3 [.int .i64 x.lo, .int .i64 x.hi, .int .i64 sm] (by rfl) (by rfl) (World.news_of_block (cs := #[.int .i64 x.lo, .int .i64 x.hi, .int .i64 sm]) (t := 3) (fr := (0, 0)) (heap_alloc_new wr _)) (by simp [Value.oneCell']) (by omega) (by unfold maxLen; omega) (by omega) (by simp; omega) (wr.heap.size + 1) (by simp) ?_; intro gg cap w1 hown1 hgrow hat hlt1))
          clear hsw hwl hwh hws
          have hR := Num.snoc ((HN.out.alloc _).drew) ⟨by omega, by omega⟩ ⟨by omega, by omega⟩ ⟨by omega, by omega⟩ hown1 hgrow
          clear hown hown1 hgrow hat
          go_wp2
          go_roundw
          case rel => exact ⟨_, _, zs ++ [x.lo, x.hi, sm], i + 1, by simp, by go_num, by omega, by simp; omega, by simp; omega, hR⟩
          case measure => simp [intOf]; omega
        · have hown := hN.1
          have hsm := hN.2.1
          have hS0 := HS.out.below hbel
          have ho0 : Only R w wr := Only.below hbel
          clear hN hbx
          have HP1 := Lib.hid (pick_any R base A n c q (zs.length : Int) wr hS0 (by omega) (by omega) (by omega))
          go_wp2_with fail
          go_at_call 41
          refine HP1.out.mono ?_
          rintro e w1 ⟨z1, rfl, a1, b1, hS1, ho1⟩
          obtain ⟨m1, rfl⟩ := Int.eq_ofNat_of_zero_le a1
          have hm1 : m1 < zs.length := by omega
          have hown1 := own_only hown hS0.bk (by decide) ho1
          obtain ⟨gb, cp, hv, -, -⟩ := hown1.form (by omega)
          injection hv with hA1 _ _
          subst hA1
          obtain ⟨y1, hy1, hy1c, hy1b⟩ := num_at hown1 hsm hm1
          have o1 := ho0.trans ho1
          clear HP1 hown ho0 ho1 hS0
          by_cases h11 : 11 ≤ zs.length
          · have h11z : (1 : Int) ≤ (zs.length : Int) - 10 := by omega
            have HP2 := Lib.hid (pick_any R base A n c (q + 1) ((zs.length : Int) - 10) w1 hS1 (by omega) (by omega) (by omega))
            go_wp2_with fail
            go_at_call 41
            refine HP2.out.mono ?_
            rintro e w2 ⟨z2, rfl, a2, b2, hS2, ho2⟩
            obtain ⟨m2, rfl⟩ := Int.eq_ofNat_of_zero_le a2
            have hm2 : 10 + m2 < zs.length := by omega
            have hm2z : (10 : Int) + (m2 : Int) < (zs.length : Int) := by omega
            have hown2 := own_only hown1 hS1.bk (by decide) ho2
            have o2 := o1.trans ho2
            clear HP2 hown1 ho2 o1 hS1
            have HP3 := Lib.hid (pick_any R base A n c (q + 1 + 1) (4) w2 hS2 (by omega) (by omega) (by omega))
            go_wp2_with fail
            go_at_call 41
            refine HP3.out.mono ?_
            rintro e w3 ⟨z3, rfl, a3, b3, hS3, ho3⟩
            have hown3 := own_only hown2 hS2.bk (by decide) ho3
            obtain ⟨y2, hy2, hy2c, hy2b⟩ := num_at hown3 hsm hm2
            have o3 := o2.trans ho3
            clear HP3 hown2 ho3 o2 hS2 hown3 hy2 hy1
            by_cases hz3 : 0 < z3
            · have hz3b : decide (0 < z3) = true := by simp; omega
              have HO := Lib.hid (one_any R base A n c (q + 1 + 1 + 1) w3.heap.size [0, 0, 1, -1, 2, 0] (-1) 2 _ (hS3.alloc (.cells #[.int .i64 0, .int .i64 0, .int .i64 1, .int .i64 (-1), .int .i64 2, .int .i64 0] 3)) (by omega) (by simp) (by simp) (Bk.new _ _ _) (by intro z hz; simp at hz; omega))
              have oo := o3.alloc (.cells #[.int .i64 0, .int .i64 0, .int .i64 1, .int .i64 (-1), .int .i64 2, .int .i64 0] 3)
              go_wp2_with fail
              go_at_call 47
              refine HO.out.mono ?_
              rintro e w9 ⟨z9, q9, rfl, a9, b9, hq9, hS9, ho9⟩
              have o9 := oo.trans ho9
              clear HO oo ho9
              by_cases t1 : y2 + z9 < -2147483648
              · have t1b : decide (y2 + z9 < -2147483648) = true := by simp; omega
                go_wp2
                go_ret
                exact ⟨0, q9, rfl, by omega, by omega, by omega, hS9, o9⟩
              have t1b : decide (y2 + z9 < -2147483648) = false := by simp; omega
              by_cases t2 : 2147483647 < y2 + z9
              · have t2b : decide (2147483647 < y2 + z9) = true := by simp; omega
                go_wp2
                go_ret
                exact ⟨0, q9, rfl, by omega, by omega, by omega, hS9, o9⟩
              have t2b : decide (2147483647 < y2 + z9) = false := by simp; omega
              go_wp2
              go_ret
              exact ⟨y2 + z9, q9, rfl, by omega, by omega, by omega, hS9, o9⟩
            · have hz3b : decide (0 < z3) = false := by simp; omega
              have HO := Lib.hid (one_any R base A n c (q + 1 + 1 + 1) w3.heap.size [0, 0, 1, -1, 2, 0] (-1) 2 _ (hS3.alloc (.cells #[.int .i64 0, .int .i64 0, .int .i64 1, .int .i64 (-1), .int .i64 2, .int .i64 0] 3)) (by omega) (by simp) (by simp) (Bk.new _ _ _) (by intro z hz; simp at hz; omega))
              have oo := o3.alloc (.cells #[.int .i64 0, .int .i64 0, .int .i64 1, .int .i64 (-1), .int .i64 2, .int .i64 0] 3)
              go_wp2_with fail
              go_at_call 47
              refine HO.out.mono ?_
              rintro e w9 ⟨z9, q9, rfl, a9, b9, hq9, hS9, ho9⟩
              have o9 := oo.trans ho9
              clear HO oo ho9
              by_cases t1 : y1 + z9 < -2147483648
              · have t1b : decide (y1 + z9 < -2147483648) = true := by simp; omega
                go_wp2
                go_ret
                exact ⟨0, q9, rfl, by omega, by omega, by omega, hS9, o9⟩
              have t1b : decide (y1 + z9 < -2147483648) = false := by simp; omega
              by_cases t2 : 2147483647 < y1 + z9
              · have t2b : decide (2147483647 < y1 + z9) = true := by simp; omega
                go_wp2
                go_ret
                exact ⟨0, q9, rfl, by omega, by omega, by omega, hS9, o9⟩
              have t2b : decide (2147483647 < y1 + z9) = false := by simp; omega
              go_wp2
              go_ret
              exact ⟨y1 + z9, q9, rfl, by omega, by omega, by omega, hS9, o9⟩
          · have h11z : ¬ ((1 : Int) ≤ (zs.length : Int) - 10) := by omega
            have HP2 := Lib.hid (pick_any R base A n c (q + 1) (1) w1 hS1 (by omega) (by omega) (by omega))
            go_wp2_with fail
            go_at_call 41
            refine HP2.out.mono ?_
            rintro e w2 ⟨z2, rfl, a2, b2, hS2, ho2⟩
            have hz20 : z2 = 0 := by omega
            subst hz20
            have o2 := o1.trans ho2
            have hnlt : ¬ ((10 : Int) < (zs.length : Int)) := by omega
            have hnltb : decide ((10 : Int) < (zs.length : Int)) = false := by simp; omega
            clear HP2 ho2 o1 hS1 hown1
            have HO := Lib.hid (one_any R base A n c (q + 1 + 1) w2.heap.size [0, 0, 1, -1, 2, 0] (-1) 2 _ (hS2.alloc (.cells #[.int .i64 0, .int .i64 0, .int .i64 1, .int .i64 (-1), .int .i64 2, .int .i64 0] 3)) (by omega) (by simp) (by simp) (Bk.new _ _ _) (by intro z hz; simp at hz; omega))
            have oo := o2.alloc (.cells #[.int .i64 0, .int .i64 0, .int .i64 1, .int .i64 (-1), .int .i64 2, .int .i64 0] 3)
            go_wp2_with fail
            go_at_call 47
            refine HO.out.mono ?_
            rintro e w9 ⟨z9, q9, rfl, a9, b9, hq9, hS9, ho9⟩
            have o9 := oo.trans ho9
            clear HO oo ho9
            by_cases t1 : y1 + z9 < -2147483648
            · have t1b : decide (y1 + z9 < -2147483648) = true := by simp; omega
              go_wp2
              go_ret
              exact ⟨0, q9, rfl, by omega, by omega, by omega, hS9, o9⟩
            have t1b : decide (y1 + z9 < -2147483648) = false := by simp; omega
            by_cases t2 : 2147483647 < y1 + z9
            · have t2b : decide (2147483647 < y1 + z9) = true := by simp; omega
              go_wp2
              go_ret
              exact ⟨0, q9, rfl, by omega, by omega, by omega, hS9, o9⟩
            have t2b : decide (2147483647 < y1 + z9) = false := by simp; omega
            go_wp2
            go_ret
            exact ⟨y1 + z9, q9, rfl, by omega, by omega, by omega, hS9, o9⟩
end Go.Proofs.Ytnhmacmpobkdoaa
