/- The generator DrawIs: a table in new memory and a number of 32 bits; nothing that was there is changed. -/
import Derived.Test.YtnhmacmpobkdoaaDrawF
namespace Go.Proofs.Ytnhmacmpobkdoaa
open Go.RowKit
set_option linter.unusedVariables false

theorem cellsL_set (k : IntKind) (v : Int) : ∀ (l : List Rg) (i : Nat) (x : Rg), l[i]? = some x →
    (cellsL k l).set (i * 3) (.int k v) = cellsL k (l.set i ⟨v, x.hi, x.st⟩) ∧ (cellsL k l).set (i * 3 + 1) (.int k v) = cellsL k (l.set i ⟨x.lo, v, x.st⟩) ∧ (cellsL k l).set (i * 3 + 2) (.int k v) = cellsL k (l.set i ⟨x.lo, x.hi, v⟩) := by
  intro l
  induction l with
  | nil => intro i x h; simp at h
  | cons y r ih =>
    intro i x h
    have e : ∀ y : Rg, cellsL k (y :: r) = .int k y.lo :: .int k y.hi :: .int k y.st :: cellsL k r := fun _ => rfl
    cases i with
    | zero => simp at h; subst h; exact ⟨rfl, rfl, rfl⟩
    | succ i =>
      simp only [List.getElem?_cons_succ] at h
      obtain ⟨h1, h2, h3⟩ := ih i x h
      have e' : ∀ r' : List Rg, cellsL k (y :: r') = .int k y.lo :: .int k y.hi :: .int k y.st :: cellsL k r' := fun _ => rfl
      rw [show (i + 1) * 3 = i * 3 + 1 + 1 + 1 from by omega]
      simp only [e', List.set_cons_succ, h1, h2, h3]
      exact ⟨trivial, trivial, trivial⟩

/-- One range of a table's first list, in its row. -/
theorem TabO.at16 {w : World} {base g c16 : Nat} {A32 : Option Addr} {c32 : Nat} {a b : List Rg} {m : Nat} (h : TabO w base (some ⟨g, 0, none⟩) c16 A32 c32 a b) (hm : m < a.length) :
    ∃ x : Rg, a[m]? = some x ∧ w.cell? ⟨g, m * 3, none⟩ = some (.int .u16 x.lo) ∧ w.cell? ⟨g, m * 3 + 1, none⟩ = some (.int .u16 x.hi) ∧ w.cell? ⟨g, m * 3 + 2, none⟩ = some (.int .u16 x.st) ∧ (∀ j, w.frozen? ⟨g, j, none⟩ = false) ∧
      0 ≤ x.lo ∧ x.lo < 65536 ∧ 0 ≤ x.hi ∧ x.hi < 65536 ∧ 0 ≤ x.st ∧ x.st < 65536 := by
  have hx : a[m]? = some a[m] := List.getElem?_eq_getElem hm
  obtain ⟨h1, h2, h3⟩ := cellsL_at .u16 a m _ hx
  refine ⟨a[m], hx, ?_, ?_, ?_, fun j => h.1.frozenAt j, h.2.2.1 _ (List.getElem_mem hm)⟩
  · rw [h.1.cellAt _ (by omega)]; exact h1
  · rw [h.1.cellAt _ (by omega)]; exact h2
  · rw [h.1.cellAt _ (by omega)]; exact h3
theorem wf_set {M : Int} {l : List Rg} (h : Wf M l) (i : Nat) {x : Rg} (hx : 0 ≤ x.lo ∧ x.lo < M ∧ 0 ≤ x.hi ∧ x.hi < M ∧ 0 ≤ x.st ∧ x.st < M) : Wf M (l.set i x) := fun y hy => by
  rcases List.mem_or_eq_of_mem_set hy with h1 | h1
  · exact h y h1
  · subst h1; exact hx
theorem TabO.set16 {w : World} {base g c16 : Nat} {A32 : Option Addr} {c32 : Nat} {a b : List Rg} {j m : Nat} {x : Rg} {u : Value} (h : TabO w base (some ⟨g, 0, none⟩) c16 A32 c32 a b) (hc : (cellsL .u16 a).set j u = cellsL .u16 (a.set m x)) (hx : 0 ≤ x.lo ∧ x.lo < 65536 ∧ 0 ≤ x.hi ∧ x.hi < 65536 ∧ 0 ≤ x.st ∧ x.st < 65536) :
    TabO (w.setCell ⟨g, j, none⟩ u) base (some ⟨g, 0, none⟩) c16 A32 c32 (a.set m x) b ∧ w.grownBy (w.setCell ⟨g, j, none⟩ u) (some g) := by
  obtain ⟨h1, h2⟩ := h.1.stored j u
  rw [hc] at h1
  refine ⟨⟨by rw [List.length_set]; exact h1, h.2.1.kept h2 ?_, wf_set h.2.2.1 m hx, h.2.2.2.1, by rw [List.length_set]; exact h.2.2.2.2.1, h.2.2.2.2.2⟩, h2⟩
  rcases own_apart h.2.1 h.1 (by decide) with h3 | h3
  · exact .inl h3
  · exact .inr h3

/-- What DrawIs leaves. -/
def DrewIs (w : World) (e : Ending) (w' : World) : Prop :=
  ∃ (A16 : Option Addr) (c16 : Nat) (A32 : Option Addr) (c32 : Nat) (a b : List Rg) (tn r : Int), e = .returned (.tuple #[.agg #[.slice A16 a.length c16, .slice A32 b.length c32, .int .i64 tn], .int .i32 r]) ∧
    TabO w' w.heap.size A16 c16 A32 c32 a b ∧ -2147483648 ≤ r ∧ r ≤ 2147483647 ∧ Below w.heap.size w w'

theorem drewIs_drew {w w' : World} {e : Ending} (h : DrewIs w e w') : DrewIs w e w'.drew := by
  obtain ⟨A16, c16, A32, c32, a, b, tn, r, he, hT, h0, h1, hb⟩ := h
  exact ⟨A16, c16, A32, c32, a, b, tn, r, he, hT.below (Below.refl _ _).drew, h0, h1, hb.drew⟩
/-- The end of DrawIs: the table in its box is copied into the result. -/
theorem drewIs_end {w wz : World} {X L : Nat} {A16 : Option Addr} {c16 : Nat} {A32 : Option Addr} {c32 : Nat} {a b : List Rg} {tn r : Int} {v0 v1 v2 : Value} (hX : Bk wz X 27 #[v0, v1, v2]) (hXw : w.heap.size ≤ X) (hT : TabO wz w.heap.size A16 c16 A32 c32 a b) (hL : a.length = L) (hB : Below w.heap.size w wz)
    (hr0 : -2147483648 ≤ r) (hr1 : r ≤ 2147483647) :
    (((wz.setCell ⟨X, 0, none⟩ (.slice A16 L c16)).setCell ⟨X, 1, none⟩ (.slice A32 b.length c32)).setCell ⟨X, 2, none⟩ (.int .i64 tn)).cell? ⟨X, 0, none⟩ = some (.slice A16 L c16) ∧
    (((wz.setCell ⟨X, 0, none⟩ (.slice A16 L c16)).setCell ⟨X, 1, none⟩ (.slice A32 b.length c32)).setCell ⟨X, 2, none⟩ (.int .i64 tn)).cell? ⟨X, 1, none⟩ = some (.slice A32 b.length c32) ∧
    (((wz.setCell ⟨X, 0, none⟩ (.slice A16 L c16)).setCell ⟨X, 1, none⟩ (.slice A32 b.length c32)).setCell ⟨X, 2, none⟩ (.int .i64 tn)).cell? ⟨X, 2, none⟩ = some (.int .i64 tn) ∧
    DrewIs w (.returned (.tuple #[.agg #[.slice A16 L c16, .slice A32 b.length c32, .int .i64 tn], .int .i32 r])) (((wz.setCell ⟨X, 0, none⟩ (.slice A16 L c16)).setCell ⟨X, 1, none⟩ (.slice A32 b.length c32)).setCell ⟨X, 2, none⟩ (.int .i64 tn)) := by
  have o3 := (((Only.refl X wz).store 0 (.slice A16 L c16)).store 1 (.slice A32 b.length c32)).store 2 (.int .i64 tn)
  have hf := ((hX.set_ 0 (.slice A16 L c16)).set_ 1 (.slice A32 b.length c32)).set_ 2 (.int .i64 tn)
  exact ⟨hf.cell 0, hf.cell 1, hf.cell 2, A16, c16, A32, c32, a, b, tn, r, by rw [hL], hT.only hX (by decide) (by decide) o3, hr0, hr1, ((hB.setCell hXw _).setCell hXw _).setCell hXw _⟩

set_option maxHeartbeats 4000000 in
set_option maxRecDepth 100000 in
theorem drawIs_any (A : Option Addr) (n c : Nat) (w : World) (hn : n ≤ 1048576) (hA : RdB w w.heap.size A n) :
    Calls Try.prog 17 #[.slice A n c] w (DrewIs w) := by
  have hX := (Bk.new w 27 #[.slice none 0 0, .slice none 0 0, .int .i64 0]).alloc (.cells #[.slice A n c, .int .i64 0] 59)
  have hRb : Bk ((w.alloc (.cells #[.slice none 0 0, .slice none 0 0, .int .i64 0] 27)).alloc (.cells #[.slice A n c, .int .i64 0] 59)) (w.heap.size + 1) 59 #[.slice A n c, .int .i64 ((0 : Nat) : Int)] := heap_new2 w _ _
  have hb0 := ((Below.refl w.heap.size w).alloc (Nat.le_refl _) (.cells #[.slice none 0 0, .slice none 0 0, .int .i64 0] 27)).alloc (by simp) (.cells #[.slice A n c, .int .i64 0] 59)
  have hS : St ((w.alloc (.cells #[.slice none 0 0, .slice none 0 0, .int .i64 0] 27)).alloc (.cells #[.slice A n c, .int .i64 0] 59)) (w.heap.size + 1) w.heap.size A n c 0 := ⟨by omega, hRb, hA.keep fun p hp => hb0.cell hp, hn⟩
  have HT := Lib.hid (drawTable_any (w.heap.size + 1) w.heap.size A n c 0 _ hS (by omega))
  have hsz : ((w.alloc (.cells #[.slice none 0 0, .slice none 0 0, .int .i64 0] 27)).alloc (.cells #[.slice A n c, .int .i64 0] 59)).heap.size = w.heap.size + 2 := by simp
  have hneX : some w.heap.size ≠ some (w.heap.size + 1) := fun h => by injection h; omega
  clear hRb hS
  go_enter Try.func17, Try.ntmps17
  go_wp2_with fail
  go_at_call 39
  refine HT.out.mono ?_
  rintro e w1 ⟨A16, c16, A32, c32, a, b, q1, rfl, hT1, hq1, hS1, ho1⟩
  have hX1 := hX.grown ho1 hneX
  have hb1 := hb0.trans (ho1.belowOf (B := w.heap.size) (by omega) (by rw [hsz]; omega))
  rw [hsz] at hT1
  clear HT hX hb0 hsz ho1
  have hsz1 := hS1.lt
  have hal := (Below.refl w1.heap.size w1).alloc (Nat.le_refl _) (.cells #[.slice A16 a.length c16, .slice A32 b.length c32, .int .i64 (latN a)] 27)
  have hT1a := hT1.below hal
  have hS1a := hS1.below hal
  have hX1a := hX1.below hal hX1.lt
  have hb1a := hb1.trans (hal.mono (by omega))
  have hBt := Bk.new w1 27 #[.slice A16 a.length c16, .slice A32 b.length c32, .int .i64 (latN a)]
  have HN := Lib.hid (number_any (w.heap.size + 1) w.heap.size A n c q1 A16 A32 c16 c32 a b (latN a) _ hS1a (by omega) hT1a.rd16 hT1a.rd32 (by have := hT1.2.2.2.2.1; omega) (by have := hT1.2.2.2.2.2; omega))
  have hsza : (w1.alloc (.cells #[.slice A16 a.length c16, .slice A32 b.length c32, .int .i64 (latN a)] 27)).heap.size = w1.heap.size + 1 := by simp
  go_wp2_with fail
  go_at_call 40
  refine HN.out.mono ?_
  rintro e w2 ⟨r, q2, rfl, hr0, hr1, hq2, hS2, ho2⟩
  have hT2 := (hT1a.only hS1a.bk (by decide) (by decide) ho2).mono (base' := w.heap.size) (by omega)
  have hX2 := hX1a.grown ho2 hneX
  have hBt2 := hBt.grown ho2 (fun h => by injection h; omega)
  have hb2 := hb1a.trans (ho2.belowOf (B := w.heap.size) (by omega) (by rw [hsza]; omega))
  clear HN hT1a hS1a hX1a hBt hb1a ho2 hsza hal hT1 hS1 hX1 hb1
  have hla := hT2.2.2.2.2.1
  have hszX := hX2.lt
  have hneB : some w1.heap.size ≠ some (w.heap.size + 1) := fun h => by injection h; omega
  have hneXB : w.heap.size ≠ w1.heap.size := by omega
  by_cases hpos : 0 < a.length
  · obtain ⟨g, cp, hv, hgw, -⟩ := hT2.1.form hpos
    obtain rfl : A16 = some ⟨g, 0, none⟩ := by injection hv
    clear hv cp
    have hpz : (0 : Int) < (a.length : Int) := by omega
    have y0 : w2.cell? ⟨w1.heap.size, 0, none⟩ = some (.slice (some ⟨g, 0, none⟩) a.length c16) := by rw [hBt2.cell]; rfl
    have HP3 := Lib.hid (pick_any (w.heap.size + 1) w.heap.size A n c (q2) ((a.length : Int)) w2 hS2 (by omega) (by omega) (by omega))
    go_wp2_with fail
    go_at_call 41
    refine HP3.out.mono ?_
    rintro e w3 ⟨z3, rfl, a3, b3, hS3, ho3⟩
    obtain ⟨m, rfl⟩ := Int.eq_ofNat_of_zero_le a3
    have hm : m < a.length := by omega
    clear y0
    have hT3 := hT2.only hS2.bk (by decide) (by decide) ho3
    have hX3 := hX2.grown ho3 hneX
    have hBt3 := hBt2.grown ho3 hneB
    have hb3 := hb2.trans (ho3.belowOf (B := w.heap.size) (by omega) hb2.size)
    clear HP3 hT2 hX2 hBt2 hb2 ho3 hS2
    have HP4 := Lib.hid (pick_any (w.heap.size + 1) w.heap.size A n c (q2 + 1) (24) w3 hS3 (by omega) (by omega) (by omega))
    go_wp2_with fail
    go_at_call 41
    refine HP4.out.mono ?_
    rintro e w4 ⟨z4, rfl, a4, b4, hS4, ho4⟩
    have hT4 := hT3.only hS3.bk (by decide) (by decide) ho4
    have hX4 := hX3.grown ho4 hneX
    have hBt4 := hBt3.grown ho4 hneB
    have hb4 := hb3.trans (ho4.belowOf (B := w.heap.size) (by omega) hb3.size)
    clear HP4 hT3 hX3 hBt3 hb3 ho4 hS3
    by_cases t0 : z4 = 0
    · subst t0
      have HP5 := Lib.hid (pick_any (w.heap.size + 1) w.heap.size A n c (q2 + 1 + 1) (4) w4 hS4 (by omega) (by omega) (by omega))
      go_wp2_with fail
      go_at_call 41
      refine HP5.out.mono ?_
      rintro e w5 ⟨z5, rfl, a5, b5, hS5, ho5⟩
      have hT5 := hT4.only hS4.bk (by decide) (by decide) ho5
      have hX5 := hX4.grown ho5 hneX
      have hBt5 := hBt4.grown ho5 hneB
      have hb5 := hb4.trans (ho5.belowOf (B := w.heap.size) (by omega) hb4.size)
      clear HP5 hT4 hX4 hBt4 hb4 ho5 hS4
      have y0 : w5.cell? ⟨w1.heap.size, 0, none⟩ = some (.slice (some ⟨g, 0, none⟩) a.length c16) := by rw [hBt5.cell]; rfl
      have y1 : w5.cell? ⟨w1.heap.size, 1, none⟩ = some (.slice A32 b.length c32) := by rw [hBt5.cell]; rfl
      have y2 : w5.cell? ⟨w1.heap.size, 2, none⟩ = some (.int .i64 (latN a)) := by rw [hBt5.cell]; rfl
      have yf : ∀ i, w5.frozen? ⟨w1.heap.size, i, none⟩ = false := fun i => hBt5.frozen i
      have x0 : w5.cell? ⟨w.heap.size, 0, none⟩ = some (.slice none 0 0) := by rw [hX5.cell]; rfl
      have x1 : w5.cell? ⟨w.heap.size, 1, none⟩ = some (.slice none 0 0) := by rw [hX5.cell]; rfl
      have x2 : w5.cell? ⟨w.heap.size, 2, none⟩ = some (.int .i64 0) := by rw [hX5.cell]; rfl
      have xf : ∀ i, w5.frozen? ⟨w.heap.size, i, none⟩ = false := fun i => hX5.frozen i
      have o1 := (Only.refl w1.heap.size w5).store 2 (.int .i64 z5)
      have HD := Lib.hid (drewIs_end (tn := z5) (hX5.far (p := ⟨w1.heap.size, 2, none⟩) hneXB (.int .i64 z5)) (Nat.le_refl _) (hT5.only hBt5 (by decide) (by decide) o1) rfl (hb5.setCell (p := ⟨w1.heap.size, 2, none⟩) (by show w.heap.size ≤ w1.heap.size; omega) _) hr0 hr1)
      go_wp2
      obtain ⟨e0, e1, e2, hD⟩ := HD.out
      exact bodyPost_ret (v := .tuple #[.agg #[.slice (some ⟨g, 0, none⟩) a.length c16, .slice A32 b.length c32, .int .i64 z5], .int .i32 r]) (by simp [results, Try.results17, go_sem, e0, e1, e2]) rfl hD
    have t0b : (z4 == 0) = false := by simp [t0]
    have hgB : some w1.heap.size ≠ some g := fun h => by have := own_bk hT4.1 hBt4 (by decide); exact this (by simpa [Value.ownBlock] using h)
    have hgX : some w.heap.size ≠ some g := fun h => by have := own_bk hT4.1 hX4 (by decide); exact this (by simpa [Value.ownBlock] using h)
    have hgB' : w1.heap.size ≠ g := fun h => hgB (by rw [h])
    have hgX' : w.heap.size ≠ g := fun h => hgX (by rw [h])
    obtain ⟨x, hx, p0, p1, p2, pf, e1, e2, e3, e4, e5, e6⟩ := hT4.at16 hm
    obtain ⟨s0, s1, s2⟩ := cellsL_set .u16 0 a m x hx
    have hmz : (m : Int) < (a.length : Int) := by omega
    by_cases t1 : z4 = 1
    · subst t1
      have y0 : w4.cell? ⟨w1.heap.size, 0, none⟩ = some (.slice (some ⟨g, 0, none⟩) a.length c16) := by rw [hBt4.cell]; rfl
      have y1 : w4.cell? ⟨w1.heap.size, 1, none⟩ = some (.slice A32 b.length c32) := by rw [hBt4.cell]; rfl
      have y2 : w4.cell? ⟨w1.heap.size, 2, none⟩ = some (.int .i64 (latN a)) := by rw [hBt4.cell]; rfl
      have yf : ∀ i, w4.frozen? ⟨w1.heap.size, i, none⟩ = false := fun i => hBt4.frozen i
      have x0 : w4.cell? ⟨w.heap.size, 0, none⟩ = some (.slice none 0 0) := by rw [hX4.cell]; rfl
      have x1 : w4.cell? ⟨w.heap.size, 1, none⟩ = some (.slice none 0 0) := by rw [hX4.cell]; rfl
      have x2 : w4.cell? ⟨w.heap.size, 2, none⟩ = some (.int .i64 0) := by rw [hX4.cell]; rfl
      have xf : ∀ i, w4.frozen? ⟨w.heap.size, i, none⟩ = false := fun i => hX4.frozen i
      obtain ⟨hT5, hg5⟩ := hT4.set16 s2 ⟨e1, e2, e3, e4, by simp, by simp⟩
      have HD := Lib.hid (drewIs_end (L := a.length) (tn := latN a) (hX4.grown hg5 hgX) (Nat.le_refl _) hT5 (by simp) (hb4.setCell (p := ⟨g, m * 3 + 2, none⟩) (by show w.heap.size ≤ g; omega) _) hr0 hr1)
      clear s0 s1 s2 hT5 hg5 hx
      go_wp2
      obtain ⟨e0, e1, e2, hD⟩ := HD.out
      exact bodyPost_ret (v := .tuple #[.agg #[.slice (some ⟨g, 0, none⟩) a.length c16, .slice A32 b.length c32, .int .i64 (latN a)], .int .i32 r]) (by simp [results, Try.results17, go_sem, e0, e1, e2]) rfl hD
    have t1b : (z4 == 1) = false := by simp [t1]
    clear s0 s1 s2
    by_cases t2 : z4 = 2
    · subst t2
      have y0 : w4.cell? ⟨w1.heap.size, 0, none⟩ = some (.slice (some ⟨g, 0, none⟩) a.length c16) := by rw [hBt4.cell]; rfl
      have y1 : w4.cell? ⟨w1.heap.size, 1, none⟩ = some (.slice A32 b.length c32) := by rw [hBt4.cell]; rfl
      have y2 : w4.cell? ⟨w1.heap.size, 2, none⟩ = some (.int .i64 (latN a)) := by rw [hBt4.cell]; rfl
      have yf : ∀ i, w4.frozen? ⟨w1.heap.size, i, none⟩ = false := fun i => hBt4.frozen i
      have x0 : w4.cell? ⟨w.heap.size, 0, none⟩ = some (.slice none 0 0) := by rw [hX4.cell]; rfl
      have x1 : w4.cell? ⟨w.heap.size, 1, none⟩ = some (.slice none 0 0) := by rw [hX4.cell]; rfl
      have x2 : w4.cell? ⟨w.heap.size, 2, none⟩ = some (.int .i64 0) := by rw [hX4.cell]; rfl
      have xf : ∀ i, w4.frozen? ⟨w.heap.size, i, none⟩ = false := fun i => hX4.frozen i
      obtain ⟨y, hy, u0, u1, u2, uf, f1, f2, f3, f4, f5, f6⟩ := hT4.at16 hpos
      obtain ⟨s0, s1, s2⟩ := cellsL_set .u16 y.hi a m x hx
      obtain ⟨hT5, hg5⟩ := hT4.set16 s0 ⟨f3, f4, e3, e4, e5, e6⟩
      simp only [Nat.zero_mul, Nat.zero_add] at u0 u1 u2
      have HD := Lib.hid (drewIs_end (L := a.length) (tn := latN a) (hX4.grown hg5 hgX) (Nat.le_refl _) hT5 (by simp) (hb4.setCell (p := ⟨g, m * 3, none⟩) (by show w.heap.size ≤ g; omega) _) hr0 hr1)
      have hk : (w4.setCell ⟨g, m * 3, none⟩ (.int .u16 y.hi)).cell? ⟨w1.heap.size, 0, none⟩ = some (.slice (some ⟨g, 0, none⟩) a.length c16) ∧ (w4.setCell ⟨g, m * 3, none⟩ (.int .u16 y.hi)).cell? ⟨g, 1, none⟩ = some (.int .u16 y.hi) :=
        ⟨by rw [World.cell?_setCell_other _ _ _ _ (fun h => by injection h with h; exact hgB' h.symm)]; exact y0, by rw [World.cell?_setCell_other _ _ _ _ (fun h => by injection h with _ h; omega)]; exact u1⟩
      have HK := Lib.hid hk
      clear s0 s1 s2 hT5 hg5 hx hy u0 u2 p2 p1 hk
      go_wp2_with fail
      go_region_held3 (fun w' => w'.cell? ⟨w1.heap.size, 0, none⟩ = some (.slice (some ⟨g, 0, none⟩) a.length c16) ∧ w'.cell? ⟨g, 1, none⟩ = some (.int .u16 y.hi)) (first | exact HK.out | go_keep) (fail)
      go_wp2
      obtain ⟨e0, e1, e2, hD⟩ := HD.out
      exact bodyPost_ret (v := .tuple #[.agg #[.slice (some ⟨g, 0, none⟩) a.length c16, .slice A32 b.length c32, .int .i64 (latN a)], .int .i32 r]) (by simp [results, Try.results17, go_sem, e0, e1, e2]) rfl (drewIs_drew hD)
    have t2b : (z4 == 2) = false := by simp [t2]
    clear hx
    have y0 : w4.cell? ⟨w1.heap.size, 0, none⟩ = some (.slice (some ⟨g, 0, none⟩) a.length c16) := by rw [hBt4.cell]; rfl
    have y1 : w4.cell? ⟨w1.heap.size, 1, none⟩ = some (.slice A32 b.length c32) := by rw [hBt4.cell]; rfl
    have y2 : w4.cell? ⟨w1.heap.size, 2, none⟩ = some (.int .i64 (latN a)) := by rw [hBt4.cell]; rfl
    have yf : ∀ i, w4.frozen? ⟨w1.heap.size, i, none⟩ = false := fun i => hBt4.frozen i
    have x0 : w4.cell? ⟨w.heap.size, 0, none⟩ = some (.slice none 0 0) := by rw [hX4.cell]; rfl
    have x1 : w4.cell? ⟨w.heap.size, 1, none⟩ = some (.slice none 0 0) := by rw [hX4.cell]; rfl
    have x2 : w4.cell? ⟨w.heap.size, 2, none⟩ = some (.int .i64 0) := by rw [hX4.cell]; rfl
    have xf : ∀ i, w4.frozen? ⟨w.heap.size, i, none⟩ = false := fun i => hX4.frozen i
    have HD := Lib.hid (drewIs_end (tn := latN a) hX4 (Nat.le_refl _) hT4 rfl hb4 hr0 hr1)
    go_wp2
    obtain ⟨e0, e1, e2, hD⟩ := HD.out
    exact bodyPost_ret (v := .tuple #[.agg #[.slice (some ⟨g, 0, none⟩) a.length c16, .slice A32 b.length c32, .int .i64 (latN a)], .int .i32 r]) (by simp [results, Try.results17, go_sem, e0, e1, e2]) rfl hD
  · have hpz : ¬ ((0 : Int) < (a.length : Int)) := by omega
    have y0 : w2.cell? ⟨w1.heap.size, 0, none⟩ = some (.slice A16 a.length c16) := by rw [hBt2.cell]; rfl
    have y1 : w2.cell? ⟨w1.heap.size, 1, none⟩ = some (.slice A32 b.length c32) := by rw [hBt2.cell]; rfl
    have y2 : w2.cell? ⟨w1.heap.size, 2, none⟩ = some (.int .i64 (latN a)) := by rw [hBt2.cell]; rfl
    have yf : ∀ i, w2.frozen? ⟨w1.heap.size, i, none⟩ = false := fun i => hBt2.frozen i
    have x0 : w2.cell? ⟨w.heap.size, 0, none⟩ = some (.slice none 0 0) := by rw [hX2.cell]; rfl
    have x1 : w2.cell? ⟨w.heap.size, 1, none⟩ = some (.slice none 0 0) := by rw [hX2.cell]; rfl
    have x2 : w2.cell? ⟨w.heap.size, 2, none⟩ = some (.int .i64 0) := by rw [hX2.cell]; rfl
    have xf : ∀ i, w2.frozen? ⟨w.heap.size, i, none⟩ = false := fun i => hX2.frozen i
    have HD := Lib.hid (drewIs_end (tn := latN a) hX2 (Nat.le_refl _) hT2 rfl hb2 hr0 hr1)
    go_wp2
    obtain ⟨e0, e1, e2, hD⟩ := HD.out
    exact bodyPost_ret (v := .tuple #[.agg #[.slice A16 a.length c16, .slice A32 b.length c32, .int .i64 (latN a)], .int .i32 r]) (by simp [results, Try.results17, go_sem, e0, e1, e2]) rfl hD
end Go.Proofs.Ytnhmacmpobkdoaa
