/- The thin package's tables, and the library's In and IsOneOf: each number is in one of the tables exactly if it is in one of their ranges. Conditions: the tables' lists are sorted, within their bounds, and lie in memory. -/
import Derived.Test.YtnhmacmpobkdoaaTabsA
import Derived.Test.YtnhmacmpobkdoaaTab
import Derived.Test.YtnhmacmpobkdoaaUni
namespace Go.Proofs.Ytnhmacmpobkdoaa
open Go.RowKit
set_option linter.unusedVariables false

/-- Both lists of each table are sorted. -/
def SrtT (ts : List Tab) : Prop := ∀ t ∈ ts, Srt 0 65535 t.a ∧ Srt 65536 1114111 t.b
theorem SrtT.at_ {ts : List Tab} (h : SrtT ts) {i : Nat} {t : Tab} (ht : ts[i]? = some t) : Srt 0 65535 t.a ∧ Srt 65536 1114111 t.b := h t (List.mem_of_getElem? ht)

theorem info_ptr : (Try.prog.info? 67).map (fun i => (i.zero, i.size, i.bytes)) = some (some (.pointer none), 1, 8) := by kernel_rfl

/-- What holds when the first i tables have been laid. -/
def LaidT (w : World) (ts : List Tab) (i : Nat) (A : Option Addr) (c : Nat) (wr : World) : Prop :=
  ∃ ps, Ptrs wr w.heap.size ps (ts.take i) ∧ wr.ownsRow w.heap.size 67 1 (.slice A i c) i ps ∧ Below w.heap.size w wr
theorem LaidT.below {w : World} {ts : List Tab} {i : Nat} {A : Option Addr} {c : Nat} {wr w1 : World} (h : LaidT w ts i A c wr) (hb : Below wr.heap.size wr w1) : LaidT w ts i A c w1 := by
  obtain ⟨ps, h1, h2, h3⟩ := h
  exact ⟨ps, h1.below hb, own_below h2 hb, h3.trans (hb.mono h3.size)⟩
theorem LaidT.step {w : World} {ts : List Tab} {i : Nat} {A : Option Addr} {c : Nat} {wr w1 : World} {t : Tab} {g gg cap : Nat} {A1 A2 : Option Addr} {c1 c2 : Nat} {ps : List Value}
    (h1 : Ptrs wr w.heap.size ps (ts.take i)) (h2 : wr.ownsRow w.heap.size 67 1 (.slice A i c) i ps) (h3 : Below w.heap.size w wr) (ht : ts[i]? = some t) (hT : TabP wr w.heap.size g A1 c1 A2 c2 t)
    (hown : w1.ownsRow w.heap.size 67 1 (.slice (some ⟨gg, 0, none⟩) (i + 1) cap) (i + 1) (ps ++ [.pointer (some ⟨g, 0, none⟩)])) (hgrow : wr.grownBy w1 (Value.slice A i c).ownBlock) :
    LaidT w ts (i + 1) (some ⟨gg, 0, none⟩) cap w1 := by
  refine ⟨_, ?_, hown, h3.grown hgrow h3.size (fun k hk => own_ge h2 k hk)⟩
  rw [takeT_snoc ht]
  exact (h1.grown h2 hgrow).snoc (hT.grown h2 hgrow (by decide) (by decide) (by decide))

set_option maxHeartbeats 2000000 in
set_option maxRecDepth 100000 in
theorem tables_any (A : Option Addr) (c : Nat) (ts : List Tab) (w : World) (hl : ts.length * 8 ≤ 140737488351232) (hs : SrtT ts) (hr : RdT w w.heap.size A ts) :
    Calls Try.prog 38 #[.slice A ts.length c] w fun e w' => ∃ A' c', e = .returned (.slice A' ts.length c') ∧ RdP w' A' c' ts ∧ Below w.heap.size w w' := by
  obtain ⟨i0, hi0, hz0, hz1, hz2⟩ := info_parts info_ptr
  go_enter Try.func38, Try.ntmps38
  go_wp2
  go_loopw [9, 3] (fun s v wr => ∃ (i : Nat) (A' : Option Addr) (c' : Nat), i ≤ ts.length ∧ s = .int .i64 i ∧ v = .slice A' i c' ∧ LaidT w ts i A' c' wr) (fun s _ _ => ts.length - (intOf s).toNat)
  case atStart =>
    refine ⟨0, some ⟨w.heap.size, 0, none⟩, 0, Nat.zero_le _, rfl, rfl, [], Ptrs.nil, ?_, (Below.refl _ _).alloc (Nat.le_refl _) _⟩
    exact ⟨rfl, .inr ⟨w.heap.size, 0, #[], rfl, Nat.le_refl _, heap_alloc_new _ _, Nat.le_refl _, by unfold maxLen; omega, rfl, rfl⟩⟩
  case round =>
    obtain ⟨i, A', c', hi, rfl, rfl, hL⟩ := hrel
    by_cases hlt : i < ts.length
    · have hbel : Below w.heap.size w wr := by obtain ⟨ps, _, _, h3⟩ := hL; exact h3
      obtain ⟨b, off, t, A16, c16, A32, c32, rfl, hb, ht, k0, k1, k2, ra, rb, l1, l2⟩ := (hr.below hbel).at_ hlt
      obtain ⟨sa, sb⟩ := hs.at_ ht
      have la := sa.len16
      have lb := sb.len32
      have hbx := (Below.refl wr.heap.size wr).alloc (Nat.le_refl _) (.cells #[.slice A16 t.a.length c16, .slice A32 t.b.length c32, .int .i64 t.n] 27)
      have hc := table_any A16 A32 c16 c32 t.a t.b t.n _ (by omega) (by omega) ((ra.more hbel.size).to hbx) ((rb.more hbel.size).to hbx)
      have HC := Lib.hid hc; clear hc
      have Ht := Lib.hid ht; clear ht
      have HL := Lib.hid (hL.below hbx); clear hL
      have HB := Lib.hid hbel
      clear sa sb la lb
      go_wp2_with (first
        | (go_at_call 44; go_must (refine HC.out.mono ?_; rintro e w1 ⟨g, A1, c1, A2, c2, rfl, hP, hb1⟩; obtain ⟨ps, hP1, hO1, hB1⟩ := HL.out.below hb1))
        | (at_builtin; refine wpList_append_lies _ rfl _ _ _ rfl w.heap.size 67 i0 _ 1 8 Try.underlying55 hi0 hz0 hz1 hz2 rfl (by omega) (.slice A' i c') i ps rfl (hO1.alloc _) ⟨w1.heap.size, 0, none⟩ 1 1 [.pointer (some ⟨g, 0, none⟩)] rfl rfl (World.news_of_block (cs := #[.pointer (some ⟨g, 0, none⟩)]) (t := 67) (fr := (0, 0)) (heap_alloc_new w1 _)) (by simp [Value.oneCell']) (by omega) (by unfold maxLen; omega) (by omega) (by have := hB1.size; simp; omega) (w1.heap.size + 1) (by simp) ?_; intro gg cap w2 hown hgrow hat hlt2))
      have hal := (Below.refl w1.heap.size w1).alloc (Nat.le_refl _) (.cells #[.pointer (some ⟨g, 0, none⟩)] 67)
      have hR := LaidT.step (hP1.below hal) (hO1.alloc _) (hB1.trans (hal.mono hB1.size)) Ht.out ((hP.mono (by simp; have := HB.out.size; omega)).below hal) hown hgrow
      go_wp2
      go_roundw
      case rel => exact ⟨i + 1, _, _, by omega, by go_num, rfl, hR⟩
      case measure => simp [intOf]; omega
    · have hii : i = ts.length := by omega
      subst hii
      obtain ⟨ps, h1, h2, h3⟩ := hL
      have hP : RdP wr A' c' ts := ⟨_, ps, by simpa [List.take_length] using h1, h2⟩
      clear h1 h2
      go_wp2
      go_ret
      exact ⟨_, _, rfl, hP, h3⟩

set_option maxHeartbeats 1000000 in
set_option maxRecDepth 100000 in
theorem uniIn_any (A : Option Addr) (c : Nat) (ts : List Tab) (r : Int) (w : World) (hr0 : -2147483648 ≤ r) (hr1 : r ≤ 2147483647) (hl : ts.length ≤ 9223372036854775807) (hs : SrtT ts) (hr : RdP w A c ts) :
    Calls Try.prog 37 #[.int .i32 r, .slice A ts.length c] w fun e w' => e = .returned (.bool (ts.any (isB · r))) ∧ Below w.heap.size w w' := by
  generalize hANS : ts.any (isB · r) = ANS
  have HA := Lib.hid hANS; clear hANS
  go_enter Try.func37, Try.ntmps37
  go_wp2
  go_loopw [9] (fun s wr => ∃ (i : Nat), i ≤ ts.length ∧ s = .int .i64 i ∧ AllU (fun t => !isB t r) ts i ∧ Below w.heap.size w wr) (fun s _ => ts.length - (intOf s).toNat)
  case atStart => exact ⟨0, Nat.zero_le _, rfl, AllU.zero _ _, Below.refl _ _⟩
  case round =>
    obtain ⟨i, hi, rfl, hp, hbel⟩ := hrel
    by_cases hlt : i < ts.length
    · obtain ⟨b, t, g, A1, c1, A2, c2, rfl, ht, k0, k1, k2, ra, rb⟩ := (hr.below hbel).at_ hlt
      obtain ⟨sa, sb⟩ := hs.at_ ht
      have hc := uniIs_any g 0 A1 A2 c1 c2 t.a t.b r wr hr0 hr1 sa sb ra rb k1 k2
      have HC := Lib.hid hc; clear hc k1 k2
      have Ht := Lib.hid ht; clear ht
      cases h : (memB t.a r || memB t.b r)
      · have hp' := hp.succ Ht.out (by rw [isB, h]; rfl)
        rw [h] at HC
        go_wp2_with (go_at_call 43; go_must (refine HC.out.mono ?_; rintro e w1 ⟨rfl, hb1⟩))
        go_roundw
        case rel => exact ⟨i + 1, by omega, by go_num, hp', hbel.trans (hb1.mono hbel.size)⟩
        case measure => simp [intOf]; omega
      · have hF := any_yes (p := (isB · r)) Ht.out (by rw [isB, h])
        have HF := Lib.hid hF; clear hF
        rw [h] at HC
        go_wp2_with (go_at_call 43; go_must (refine HC.out.mono ?_; rintro e w1 ⟨rfl, hb1⟩))
        go_ret
        exact ⟨ret_bool (by rw [← HA.out, HF.out]), hbel.trans (hb1.mono hbel.size)⟩
    · have hF := any_end (p := (isB · r)) hp hi hlt
      have HF := Lib.hid hF; clear hF
      go_wp2
      go_ret
      exact ⟨ret_bool (by rw [← HA.out, HF.out]), hbel⟩

set_option maxHeartbeats 1000000 in
theorem implIn_any (A : Option Addr) (c : Nat) (ts : List Tab) (r : Int) (w : World) (hr0 : -2147483648 ≤ r) (hr1 : r ≤ 2147483647) (hl : ts.length * 8 ≤ 140737488351232) (hs : SrtT ts) (hr : RdT w w.heap.size A ts) :
    Calls Try.prog 15 #[.int .i32 r, .slice A ts.length c] w fun e w' => e = .returned (.bool (ts.any (isB · r))) ∧ Below w.heap.size w w' := by
  have HT := Lib.hid (tables_any A c ts w hl hs hr)
  go_enter Try.func15, Try.ntmps15
  go_wp2_with fail
  go_at_call 38
  refine HT.out.mono ?_
  rintro e w1 ⟨A', c', rfl, hP, hb1⟩
  have HU := Lib.hid (uniIn_any A' c' ts r w1 hr0 hr1 (by omega) hs hP)
  clear hP
  go_wp2_with (go_at_call 37; go_must (refine HU.out.mono ?_; rintro e w2 ⟨rfl, hb2⟩))
  go_ret
  exact ⟨rfl, hb1.trans (hb2.mono hb1.size)⟩
end Go.Proofs.Ytnhmacmpobkdoaa
