/- The reference's Merged: the table of the numbers that are in one of two tables, in new memory. -/
import Derived.Test.YtnhmacmpobkdoaaMrg
import Derived.Test.YtnhmacmpobkdoaaFill
import Derived.Test.YtnhmacmpobkdoaaLawV
import Derived.Deep.RegionHeld3
import Derived.Deep.DrawnRows
namespace Go.Proofs.Ytnhmacmpobkdoaa
open Go.RowKit
set_option linter.unusedVariables false
attribute [local go_sem ↓] Go.wp_at_zero Go.wp_at_succ

theorem ap_below {w2 W w5 : World} {e : TypeId} {size n : Nat} {v : Value} {xs : List Value} (hb : Below w2.heap.size w2 W) (ho : W.ownsRow w2.heap.size e size v n xs) (hg : W.grownBy w5 v.ownBlock) : Below w2.heap.size w2 w5 := hb.grown hg hb.size (own_ge ho)
theorem rn_cut {w : World} {B b o c : Nat} {x : Int} {xs : List Int} (h : Rn w B (some ⟨b, o, none⟩) (x :: xs)) (hc : (x :: xs).length ≤ c) : Rn w B (if c = 1 then some ⟨b, o, none⟩ else some ⟨b, o + 1, none⟩) xs := by
  split
  · intro hl; simp at hc; omega
  · exact h.tail
set_option maxHeartbeats 8000000 in
set_option maxRecDepth 100000 in
theorem merged_any (A16 A32 : Option Addr) (c16 c32 : Nat) (a b : List Rg) (n : Int) (P16 P32 : Option Addr) (e16 e32 : Nat) (p q : List Rg) (n2 : Int) (w : World) (la : a.length ≤ 40) (lb : b.length ≤ 40) (lp : p.length ≤ 40) (lq : q.length ≤ 40)
    (ra : Rd w w.heap.size .u16 65536 A16 a) (rb : Rd w w.heap.size .u32 4294967296 A32 b) (rp : Rd w w.heap.size .u16 65536 P16 p) (rq : Rd w w.heap.size .u32 4294967296 P32 q) (sa : Stp a) (sb : Stp b) (sp : Stp p) (sq : Stp q) (hbb : ∀ x ∈ b, x.hi ≤ 1114111) (hbq : ∀ x ∈ q, x.hi ≤ 1114111)
    (hX : Asc (membersL a ++ membersL b)) (hY : Asc (membersL p ++ membersL q)) (kX : Cps (membersL a ++ membersL b)) (kY : Cps (membersL p ++ membersL q)) (lX : (membersL a ++ membersL b).length ≤ 50000000) (lY : (membersL p ++ membersL q).length ≤ 50000000) :
    Calls Try.prog 36 #[.agg #[.slice A16 a.length c16, .slice A32 b.length c32, .int .i64 n], .agg #[.slice P16 p.length e16, .slice P32 q.length e32, .int .i64 n2]] w (MergedP w (membersL a ++ membersL b) (membersL p ++ membersL q)) := by
  obtain ⟨i0, hi0, hz0, hz1, hz2⟩ := info_parts info_rune
  have hT0 := ((Bk.new w 27 #[.slice A16 a.length c16, .slice A32 b.length c32, .int .i64 n]).alloc (.cells #[.slice P16 p.length e16, .slice P32 q.length e32, .int .i64 n2] 27)).alloc (.cells #[.slice none 0 0, .slice none 0 0, .int .i64 0] 27)
  have hT1 := (bk_at (W := w.alloc (.cells #[.slice A16 a.length c16, .slice A32 b.length c32, .int .i64 n] 27)) (k := w.heap.size + 1) (by simp) 27 #[.slice P16 p.length e16, .slice P32 q.length e32, .int .i64 n2]).alloc (.cells #[.slice none 0 0, .slice none 0 0, .int .i64 0] 27)
  have hZ0 := bk_at (W := (w.alloc (.cells #[.slice A16 a.length c16, .slice A32 b.length c32, .int .i64 n] 27)).alloc (.cells #[.slice P16 p.length e16, .slice P32 q.length e32, .int .i64 n2] 27)) (k := w.heap.size + 1 + 1) (by simp) 27 #[.slice none 0 0, .slice none 0 0, .int .i64 0]
  have hb0 := (((Below.refl w.heap.size w).alloc (Nat.le_refl _) (.cells #[.slice A16 a.length c16, .slice A32 b.length c32, .int .i64 n] 27)).alloc (by simp) (.cells #[.slice P16 p.length e16, .slice P32 q.length e32, .int .i64 n2] 27)).alloc (by simp; omega) (.cells #[.slice none 0 0, .slice none 0 0, .int .i64 0] 27)
  go_enter Try.func36, Try.ntmps36
  go_wp2_with fail
  generalize hW : ((w.alloc (.cells #[.slice A16 a.length c16, .slice A32 b.length c32, .int .i64 n] 27)).alloc (.cells #[.slice P16 p.length e16, .slice P32 q.length e32, .int .i64 n2] 27)).alloc (.cells #[.slice none 0 0, .slice none 0 0, .int .i64 0] 27) = w0 at *
  clear hW
  have t0 := hT0.cell 0
  have t1 := hT0.cell 1
  have t2 := hT0.cell 2
  simp only [List.getElem?_toArray, List.getElem?_cons_zero, List.getElem?_cons_succ] at t0 t1 t2
  have hm1 := members_any A16 A32 c16 c32 a b n w0 la lb (ra.to hb0) (rb.to hb0) sa sb hbb
  have hm2 := fun W h1 h2 => members_any P16 P32 e16 e32 p q n2 W lp lq h1 h2 sp sq hbq
  generalize membersL a ++ membersL b = X at *
  generalize membersL p ++ membersL q = Y at *
  have HM1 := Lib.hid hm1; have HM2 := Lib.hid hm2; clear hm1 hm2
  go_wp2_with fail
  go_at_call 31
  refine HM1.out.mono ?_
  rintro e w1 ⟨Ax, cx, rfl, hRx, hb1⟩
  clear HM1 t0 t1 t2
  have hT1' := hT1.below hb1 hT1.lt
  have t0 := hT1'.cell 0
  have t1 := hT1'.cell 1
  have t2 := hT1'.cell 2
  simp only [List.getElem?_toArray, List.getElem?_cons_zero, List.getElem?_cons_succ] at t0 t1 t2
  have hb01 := hb0.trans (hb1.mono hb0.size)
  have HM3 := Lib.hid (HM2.out w1 (rp.to hb01) (rq.to hb01)); clear HM2
  go_wp2_with fail
  go_at_call 31
  refine HM3.out.mono ?_
  rintro e w2 ⟨Ay, cy, rfl, hRy, hb2⟩
  clear HM3 t0 t1 t2 hT1'
  have rx := hRx.rn.to hb2
  have ry := hRy.rn
  obtain ⟨cx0, cx1⟩ := own_cap hRx.1
  obtain ⟨cy0, cy1⟩ := own_cap hRy.1
  unfold maxLen at cx1 cy1
  have hb02 := hb01.trans (hb2.mono hb01.size)
  have hZ2 := (hZ0.below hb1 hZ0.lt).below hb2 (Nat.lt_of_lt_of_le hZ0.lt hb1.size)
  clear hRx hRy hT0 hT1 hZ0 hb0 hb1 hb01 hb2
  have hR0 := Runes.start w2.heap.size w2 (Nat.le_refl _)
  have hbo := (Below.refl w2.heap.size w2).alloc (Nat.le_refl _) (.cells #[] 21)
  have hI0 : MInv [] X Y X Y := ⟨by simpa using hX, by simpa using hY, fun z => by simp⟩
  go_wp2_with fail
  go_loopw [5, 6, 7] (fun s5 s6 s7 wr => ∃ (Ax : Option Addr) (cx : Nat) (xs : List Int) (Ay : Option Addr) (cy : Nat) (ys : List Int) (Ao : Option Addr) (co : Nat) (os : List Int), s5 = .slice Ax xs.length cx ∧ s6 = .slice Ay ys.length cy ∧ s7 = .slice Ao os.length co ∧ xs.length ≤ cx ∧ ys.length ≤ cy ∧ cx ≤ 9223372036854775807 ∧ cy ≤ 9223372036854775807 ∧ os.length + xs.length + ys.length ≤ 100000000 ∧ MInv os xs ys X Y ∧ Rn w2 w2.heap.size Ax xs ∧ Rn w2 w2.heap.size Ay ys ∧ Runes w2.heap.size Ao co os wr ∧ Below w2.heap.size w2 wr) (fun s5 s6 _ _ => slLen s5 + slLen s6)
  case atStart => exact ⟨Ax, cx, X, Ay, cy, Y, _, 0, [], rfl, rfl, rfl, cx0, cy0, cx1, cy1, by simp; omega, hI0, rx, ry, hR0, hbo⟩
  case round =>
    clear hR0 hbo hI0 rx ry cx0 cx1 cy0 cy1
    obtain ⟨Ax, cx, xs, Ay, cy, ys, Ao, co, os, rfl, rfl, rfl, cx0, cy0, cx1, cy1, hlen, hI, rx, ry, hR, hq⟩ := hrel
    have hmem : ∀ z, z ∈ xs ∨ z ∈ ys → 0 ≤ z ∧ z ≤ 1114111 := fun z hz => by
      rcases (hI.2.2 z).1 (.inr hz) with h | h
      · exact kX z h
      · exact kY z h
    have HMEM := Lib.hid hmem; clear hmem
    have HI := Lib.hid hI; clear hI
    have hsz := hq.size
    rcases xs with _ | ⟨x0, xt⟩
    · rcases ys with _ | ⟨y0, yt⟩
      · have hA : Asc os := by have := HI.out.1; rwa [List.append_nil] at this
        have hmo : ∀ z, z ∈ os ↔ (z ∈ X ∨ z ∈ Y) := fun z => by have := HI.out.2.2 z; simpa using this
        have hco : Cps os := fun z hz => by
          rcases (hmo z).1 hz with h | h
          · exact kX z h
          · exact kY z h
        have hol : os.length ≤ 100000000 := by simp at hlen; omega
        have HOF := Lib.hid (of_any Ao co os wr hol hR.rn hco)
        have HMO := Lib.hid hmo; clear hmo hR HI
        go_wp2_with fail
        go_at_call 27
        refine HOF.out.mono ?_
        rintro e w6 ⟨Aq, cq, Bq, dq, rfl, o16, o32, f16, f32, hb6⟩
        clear HOF
        have hZ6 := (hZ2.below hq hZ2.lt).below hb6 (Nat.lt_of_lt_of_le hZ2.lt hq.size)
        have hbw := hb02.trans (hq.mono hb02.size)
        have HD := Lib.hid (made_stored hbw hZ6 (by omega) hb6 o16 o32 f16 f32 rfl)
        have z0 := hZ6.cell 0
        have z1 := hZ6.cell 1
        have z2 := hZ6.cell 2
        simp only [List.getElem?_toArray, List.getElem?_cons_zero, List.getElem?_cons_succ] at z0 z1 z2
        have zf := hZ6.frozen
        clear o16 o32 f16 f32 hb6 hZ6 hbw hq
        go_wp2
        obtain ⟨e0, e1, e2, hD⟩ := HD.out
        exact bodyPost_ret (v := .agg #[.slice Aq (ofA os).length cq, .slice Bq (ofB os).length dq, .int .i64 (latN (ofA os))]) (by simp [results, Try.results36, go_sem, e0, e1, e2]) rfl ⟨os, hA, hco, HMO.out, by omega, hD⟩
      · have hyb : (((yt.length : Int) + 1) == 0) = false := beq_eq_false_iff_ne.2 (by omega)
        have hyc : yt.length + 1 ≤ cy := by simpa using cy0
        have hyn : os.length + yt.length + 1 ≤ 100000000 := by simp at hlen; omega
        obtain ⟨by0, oy, rfl, hby, py⟩ := ry.head
        have py' := (hq.cell (p := ⟨by0, oy, none⟩) hby).trans py
        obtain ⟨dy0, dy1⟩ := HMEM.out y0 (.inr (by simp))
        clear py
        have hI2 := HI.out.y (fun x hx => by cases hx)
        have HI2 := Lib.hid hI2; clear hI2 HI
        have hRd : ∀ k, Runes w2.heap.size Ao co os (wr.drewN k) := fun k => hR.below (below_drewN (Below.refl _ _) k)
        have hQd : ∀ k, Below w2.heap.size w2 (wr.drewN k) := fun k => below_drewN hq k
        have HRd := Lib.hid hRd; have HQd := Lib.hid hQd; clear hR hq hRd hQd
        go_wp2_with fail
        go_quiet (fail)
        go_wp2_with fail
        go_quiet (fail)
        go_wp2_with (at_builtin; refine wpList_append_all _ rfl _ _ _ rfl w2.heap.size 21 i0 _ 1 4 Try.underlying41 hi0 hz0 hz1 hz2 rfl (by omega) (.slice Ao os.length co) os.length (os.map (Value.int .i32)) rfl ((HRd.out _).1.alloc _) (some ⟨wr.heap.size, 0, none⟩) 1 1 [.int .i32 y0] rfl rfl (fun h => by cases h) (news_one (cs := #[.int .i32 y0]) (t := 21) (heap_alloc_new (wr.drewN _) _)) (by simp [Value.oneCell']) (by unfold maxLen; omega) (by omega) (by simp; omega) ?_; intro A2 cap w5 hown1 hgrow hat; have hR2 := (HRd.out 0).snocA (z := y0) (by omega) hown1; have hq2 := ap_below (bel_alloc (o := (.cells #[.int .i32 y0] 21)) (HQd.out _)) ((HRd.out _).1.alloc (.cells #[.int .i32 y0] 21)) hgrow; have HS2 := Lib.hid (⟨hR2, hq2⟩ : Runes _ _ _ _ _ ∧ Below _ _ _); clear hR2 hq2 hgrow hat hown1)
        all_goals (
          go_roundw
          case rel => exact ⟨Ax, cx, [], (if cy = 1 then some ⟨by0, oy, none⟩ else some ⟨by0, oy + 1, none⟩), cy - 1, yt, A2, cap, os ++ [y0], rfl, by simp, by simp, by simp, by omega, cx1, by omega, by simp at hlen ⊢; omega, HI2.out, Rn.nil, rn_cut ry cy0, HS2.out.1, HS2.out.2⟩
          case measure => first | (simp [slLen]; done) | (simp [slLen]; omega))
    · have hxc : xt.length + 1 ≤ cx := by simpa using cx0
      have hxn : os.length + xt.length + 1 ≤ 100000000 := by simp at hlen; omega
      obtain ⟨bx, ox, rfl, hbx, px⟩ := rx.head
      have px' := (hq.cell (p := ⟨bx, ox, none⟩) hbx).trans px
      obtain ⟨dx0, dx1⟩ := HMEM.out x0 (.inl (by simp))
      clear px
      rcases ys with _ | ⟨y0, yt⟩
      · have hI2 := HI.out.x (fun y hy => by cases hy)
        have HI2 := Lib.hid hI2; clear hI2 HI
        have hRd : ∀ k, Runes w2.heap.size Ao co os (wr.drewN k) := fun k => hR.below (below_drewN (Below.refl _ _) k)
        have hQd : ∀ k, Below w2.heap.size w2 (wr.drewN k) := fun k => below_drewN hq k
        have HRd := Lib.hid hRd; have HQd := Lib.hid hQd; clear hR hq hRd hQd
        go_wp2_with fail
        go_quiet (fail)
        go_wp2_with (at_builtin; refine wpList_append_all _ rfl _ _ _ rfl w2.heap.size 21 i0 _ 1 4 Try.underlying41 hi0 hz0 hz1 hz2 rfl (by omega) (.slice Ao os.length co) os.length (os.map (Value.int .i32)) rfl ((HRd.out _).1.alloc _) (some ⟨wr.heap.size, 0, none⟩) 1 1 [.int .i32 x0] rfl rfl (fun h => by cases h) (news_one (cs := #[.int .i32 x0]) (t := 21) (heap_alloc_new (wr.drewN _) _)) (by simp [Value.oneCell']) (by unfold maxLen; omega) (by omega) (by simp; omega) ?_; intro A2 cap w5 hown1 hgrow hat; have hR2 := (HRd.out 0).snocA (z := x0) (by omega) hown1; have hq2 := ap_below (bel_alloc (o := (.cells #[.int .i32 x0] 21)) (HQd.out _)) ((HRd.out _).1.alloc (.cells #[.int .i32 x0] 21)) hgrow; have HS2 := Lib.hid (⟨hR2, hq2⟩ : Runes _ _ _ _ _ ∧ Below _ _ _); clear hR2 hq2 hgrow hat hown1)
        all_goals (
          go_roundw
          case rel => exact ⟨(if cx = 1 then some ⟨bx, ox, none⟩ else some ⟨bx, ox + 1, none⟩), cx - 1, xt, Ay, cy, [], A2, cap, os ++ [x0], by simp, rfl, by simp, by omega, by simp, by omega, cy1, by simp at hlen ⊢; omega, HI2.out, rn_cut rx cx0, Rn.nil, HS2.out.1, HS2.out.2⟩
          case measure => first | (simp [slLen]; done) | (simp [slLen]; omega))
      · have hyb : (((yt.length : Int) + 1) == 0) = false := beq_eq_false_iff_ne.2 (by omega)
        have hxb : (((xt.length : Int) + 1) == 0) = false := beq_eq_false_iff_ne.2 (by omega)
        have hxg : decide (0 < (xt.length : Int) + 1) = true := by simp only [decide_eq_true_eq]; omega
        have hyc : yt.length + 1 ≤ cy := by simpa using cy0
        have hyn : os.length + xt.length + yt.length + 2 ≤ 100000000 := by simp at hlen; omega
        obtain ⟨by0, oy, rfl, hby, py⟩ := ry.head
        have py' := (hq.cell (p := ⟨by0, oy, none⟩) hby).trans py
        obtain ⟨dy0, dy1⟩ := HMEM.out y0 (.inr (by simp))
        clear py
        by_cases hxy : x0 < y0
        · have hxyb : decide (x0 < y0) = true := by simp; omega
          have hI2 := HI.out.x (asc_lt HI.out.2.1 hxy)
          have HI2 := Lib.hid hI2; clear hI2 HI
          have hRd : ∀ k, Runes w2.heap.size Ao co os (wr.drewN k) := fun k => hR.below (below_drewN (Below.refl _ _) k)
          have hQd : ∀ k, Below w2.heap.size w2 (wr.drewN k) := fun k => below_drewN hq k
          have HRd := Lib.hid hRd; have HQd := Lib.hid hQd; clear hR hq hRd hQd
          go_wp2_with fail
          go_quiet (fail)
          go_wp2_with (at_builtin; refine wpList_append_all _ rfl _ _ _ rfl w2.heap.size 21 i0 _ 1 4 Try.underlying41 hi0 hz0 hz1 hz2 rfl (by omega) (.slice Ao os.length co) os.length (os.map (Value.int .i32)) rfl ((HRd.out _).1.alloc _) (some ⟨wr.heap.size, 0, none⟩) 1 1 [.int .i32 x0] rfl rfl (fun h => by cases h) (news_one (cs := #[.int .i32 x0]) (t := 21) (heap_alloc_new (wr.drewN _) _)) (by simp [Value.oneCell']) (by unfold maxLen; omega) (by omega) (by simp; omega) ?_; intro A2 cap w5 hown1 hgrow hat; have hR2 := (HRd.out 0).snocA (z := x0) (by omega) hown1; have hq2 := ap_below (bel_alloc (o := (.cells #[.int .i32 x0] 21)) (HQd.out _)) ((HRd.out _).1.alloc (.cells #[.int .i32 x0] 21)) hgrow; have HS2 := Lib.hid (⟨hR2, hq2⟩ : Runes _ _ _ _ _ ∧ Below _ _ _); clear hR2 hq2 hgrow hat hown1)
          all_goals (
            go_roundw
            case rel => exact ⟨(if cx = 1 then some ⟨bx, ox, none⟩ else some ⟨bx, ox + 1, none⟩), cx - 1, xt, _, cy, y0 :: yt, A2, cap, os ++ [x0], by simp, by simp, by simp, by omega, cy0, by omega, cy1, by simp at hlen ⊢; omega, HI2.out, rn_cut rx cx0, ry, HS2.out.1, HS2.out.2⟩
            case measure => first | (simp [slLen]; done) | (simp [slLen]; omega))
        have hxyb : decide (x0 < y0) = false := by simp; omega
        by_cases hyx : y0 < x0
        · have hyxb : decide (y0 < x0) = true := by simp; omega
          have hI2 := HI.out.y (asc_lt HI.out.1 hyx)
          have HI2 := Lib.hid hI2; clear hI2 HI
          have hRd : ∀ k, Runes w2.heap.size Ao co os (wr.drewN k) := fun k => hR.below (below_drewN (Below.refl _ _) k)
          have hQd : ∀ k, Below w2.heap.size w2 (wr.drewN k) := fun k => below_drewN hq k
          have HRd := Lib.hid hRd; have HQd := Lib.hid hQd; clear hR hq hRd hQd
          go_wp2_with fail
          go_quiet (fail)
          go_wp2_with fail
          go_quiet (fail)
          go_wp2_with (at_builtin; refine wpList_append_all _ rfl _ _ _ rfl w2.heap.size 21 i0 _ 1 4 Try.underlying41 hi0 hz0 hz1 hz2 rfl (by omega) (.slice Ao os.length co) os.length (os.map (Value.int .i32)) rfl ((HRd.out _).1.alloc _) (some ⟨wr.heap.size, 0, none⟩) 1 1 [.int .i32 y0] rfl rfl (fun h => by cases h) (news_one (cs := #[.int .i32 y0]) (t := 21) (heap_alloc_new (wr.drewN _) _)) (by simp [Value.oneCell']) (by unfold maxLen; omega) (by omega) (by simp; omega) ?_; intro A2 cap w5 hown1 hgrow hat; have hR2 := (HRd.out 0).snocA (z := y0) (by omega) hown1; have hq2 := ap_below (bel_alloc (o := (.cells #[.int .i32 y0] 21)) (HQd.out _)) ((HRd.out _).1.alloc (.cells #[.int .i32 y0] 21)) hgrow; have HS2 := Lib.hid (⟨hR2, hq2⟩ : Runes _ _ _ _ _ ∧ Below _ _ _); clear hR2 hq2 hgrow hat hown1)
          all_goals (
            go_roundw
            case rel => exact ⟨_, cx, x0 :: xt, (if cy = 1 then some ⟨by0, oy, none⟩ else some ⟨by0, oy + 1, none⟩), cy - 1, yt, A2, cap, os ++ [y0], by simp, by simp, by simp, cx0, by omega, cx1, by omega, by simp at hlen ⊢; omega, HI2.out, rx, rn_cut ry cy0, HS2.out.1, HS2.out.2⟩
            case measure => first | (simp [slLen]; done) | (simp [slLen]; omega))
        have hyxb : decide (y0 < x0) = false := by simp; omega
        obtain rfl : y0 = x0 := by omega
        have hI2 := HI.out.eq
        have HI2 := Lib.hid hI2; clear hI2 HI
        have hRd : ∀ k, Runes w2.heap.size Ao co os (wr.drewN k) := fun k => hR.below (below_drewN (Below.refl _ _) k)
        have hQd : ∀ k, Below w2.heap.size w2 (wr.drewN k) := fun k => below_drewN hq k
        have HRd := Lib.hid hRd; have HQd := Lib.hid hQd; clear hR hq hRd hQd
        go_wp2_with fail
        go_quiet (fail)
        go_wp2_with fail
        go_quiet (fail)
        go_wp2
        all_goals (
          go_roundw
          case rel => exact ⟨(if cx = 1 then some ⟨bx, ox, none⟩ else some ⟨bx, ox + 1, none⟩), cx - 1, xt, _, cy, y0 :: yt, Ao, co, os, by simp, by simp, rfl, by omega, cy0, by omega, cy1, by simp at hlen ⊢; omega, HI2.out, rn_cut rx cx0, ry, HRd.out _, HQd.out _⟩
          case measure => first | (simp [slLen]; done) | (simp [slLen]; omega))
end Go.Proofs.Ytnhmacmpobkdoaa
