/- What the laws over lists of tables share: the drawn list, what allGood tells, and that A is in one of one table of A. -/
import Derived.Test.YtnhmacmpobkdoaaDrawI
import Derived.Test.YtnhmacmpobkdoaaSpecG
import Derived.Test.YtnhmacmpobkdoaaTabs
import Derived.Test.YtnhmacmpobkdoaaLetter
namespace Go.Proofs.Ytnhmacmpobkdoaa
open Go.RowKit
set_option linter.unusedVariables false

theorem drawIn_ts (A : Option Addr) (n c : Nat) (w : World) (hn : n ≤ 1048576) (hA : RdB w w.heap.size A n) :
    Calls Try.prog 34 #[.slice A n c] w fun e w' => ∃ (A' : Option Addr) (c' : Nat) (ts : List Tab) (r : Int), e = .returned (.tuple #[.int .i32 r, .slice A' ts.length c']) ∧ ts.length ≤ 5 ∧ RdT w' w'.heap.size A' ts ∧
      (∀ t ∈ ts, t.a.length ≤ 40 ∧ t.b.length ≤ 40) ∧ -2147483648 ≤ r ∧ r ≤ 2147483647 ∧ Below w.heap.size w w' :=
  (drawIn_any A n c w hn hA).mono fun e w' ⟨A', c', es, r, he, hl, hL, hr0, hr1, hb⟩ => ⟨A', c', es.map Ent.t, r, by rw [he, List.length_map], by rw [List.length_map]; exact hl, hL.rdT, hL.small, hr0, hr1, hb⟩

theorem allGoodB_true {ts : List Tab} (h : allGoodB ts = true) : SrtT ts ∧ PosT ts := by
  simp only [allGoodB, Bool.and_eq_true] at h
  refine ⟨fun t ht => ?_, posT_of h.1⟩
  have h1 := h.1
  rw [List.all_eq_true] at h1
  obtain ⟨v1, v2, -⟩ := validB_true (h1 t ht)
  exact ⟨v1, v2⟩

/-- The list of the letter's table alone. -/
theorem letter_list {w : World} {g : Nat} {Al : Option Addr} {cl : Nat} (hR : Rd w w.heap.size .u16 65536 Al [⟨65, 65, 1⟩]) (hg : Bk w g 27 #[.slice Al 1 cl, .slice none 0 0, .int .i64 1]) : RdT w w.heap.size (some ⟨g, 0, none⟩) [⟨[⟨65, 65, 1⟩], [], 1⟩] := by
  refine ⟨fun t ht => ?_, fun _ => ⟨g, 0, rfl, hg.lt, fun i t ht => ?_⟩⟩
  · rw [List.mem_singleton] at ht
    subst ht
    exact ⟨by simp, by simp⟩
  · have hi : i = 0 := by
      have := (List.getElem?_eq_some_iff.1 ht).1
      simp at this
      omega
    subst hi
    simp at ht
    subst ht
    exact ⟨Al, cl, none, 0, hg.cell 0, hg.cell 1, hg.cell 2, hR, Rd.nil⟩
theorem letter_srt : SrtT [⟨[⟨65, 65, 1⟩], [], 1⟩] := fun t ht => by
  rw [List.mem_singleton] at ht
  subst ht
  exact ⟨srt_A, srt_nil _ _⟩
theorem letterIn_any (Al : Option Addr) (cl : Nat) (w : World) (hR : Rd w w.heap.size .u16 65536 Al [⟨65, 65, 1⟩]) :
    Calls Try.prog 15 #[.int .i32 65, .slice (some ⟨w.heap.size, 0, none⟩) 1 1] (w.alloc (.cells #[.slice Al 1 cl, .slice none 0 0, .int .i64 1] 27)) fun e w' => e = .returned (.bool true) ∧ Below w.heap.size w w' := by
  have hal := (Below.refl w.heap.size w).alloc (Nat.le_refl _) (.cells #[.slice Al 1 cl, .slice none 0 0, .int .i64 1] 27)
  have h := implIn_any (some ⟨w.heap.size, 0, none⟩) 1 [⟨[⟨65, 65, 1⟩], [], 1⟩] 65 _ (by omega) (by omega) (by simp) letter_srt (letter_list (cl := cl) (hR.to hal) (Bk.new _ _ _))
  have e : ([⟨[⟨65, 65, 1⟩], [], 1⟩] : List Tab).any (isB · 65) = true := by decide
  rw [e] at h
  exact h.mono fun e w' ⟨he, hb⟩ => ⟨he, hal.trans (hb.mono (by simp))⟩
end Go.Proofs.Ytnhmacmpobkdoaa
