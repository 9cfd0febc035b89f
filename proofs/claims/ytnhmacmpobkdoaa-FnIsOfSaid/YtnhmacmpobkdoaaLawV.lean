/- Parts of a list of tables. -/
import Derived.Test.YtnhmacmpobkdoaaLawT
namespace Go.Proofs.Ytnhmacmpobkdoaa
open Go.RowKit
set_option linter.unusedVariables false

theorem own_cap {w : World} {base : Nat} {e : TypeId} {size n m c : Nat} {A : Option Addr} {xs : List Value} (h : w.ownsRow base e size (.slice A m c) n xs) : m ≤ c ∧ c ≤ maxLen := by
  rcases h.2 with ⟨hv, _⟩ | ⟨g, cap, cur, hv, _, _, hc, hm, _⟩
  · injection hv with _ h1 h2
    subst h1 h2
    exact ⟨Nat.le_refl _, Nat.zero_le _⟩
  · injection hv with _ h1 h2
    subst h1 h2
    exact ⟨hc, hm⟩
theorem drawIn_cap (A : Option Addr) (n c : Nat) (w : World) (hn : n ≤ 1048576) (hA : RdB w w.heap.size A n) :
    Calls Try.prog 34 #[.slice A n c] w fun e w' => ∃ (A' : Option Addr) (c' : Nat) (ts : List Tab) (r : Int), e = .returned (.tuple #[.int .i32 r, .slice A' ts.length c']) ∧ ts.length ≤ 5 ∧ RdT w' w'.heap.size A' ts ∧
      (∀ t ∈ ts, t.a.length ≤ 40 ∧ t.b.length ≤ 40) ∧ (ts.length ≤ c' ∧ c' ≤ 9223372036854775807) ∧ -2147483648 ≤ r ∧ r ≤ 2147483647 ∧ Below w.heap.size w w' :=
  (drawIn_any A n c w hn hA).mono fun e w' ⟨A', c', es, r, he, hl, hL, hr0, hr1, hb⟩ => ⟨A', c', es.map Ent.t, r, by rw [he, List.length_map], by rw [List.length_map]; exact hl, hL.rdT, hL.small, by rw [List.length_map]; have := own_cap hL.1; unfold maxLen at this; omega, hr0, hr1, hb⟩

theorem own_at {w : World} {base : Nat} {e : TypeId} {size n m c : Nat} {A : Option Addr} {xs : List Value} (h : w.ownsRow base e size (.slice A m c) n xs) : A = none ∨ ∃ g, A = some ⟨g, 0, none⟩ := by
  rcases h.2 with ⟨hv, _⟩ | ⟨g, cap, cur, hv, _⟩
  · injection hv with h0 h1 h2
    exact .inl h0
  · injection hv with h0 h1 h2
    exact .inr ⟨g, h0⟩
theorem drawIn_at (A : Option Addr) (n c : Nat) (w : World) (hn : n ≤ 1048576) (hA : RdB w w.heap.size A n) :
    Calls Try.prog 34 #[.slice A n c] w fun e w' => ∃ (A' : Option Addr) (c' : Nat) (ts : List Tab) (r : Int), e = .returned (.tuple #[.int .i32 r, .slice A' ts.length c']) ∧ ts.length ≤ 5 ∧ RdT w' w'.heap.size A' ts ∧
      (∀ t ∈ ts, t.a.length ≤ 40 ∧ t.b.length ≤ 40) ∧ (ts.length ≤ c' ∧ c' ≤ 9223372036854775807 ∧ (A' = none ∨ ∃ g, A' = some ⟨g, 0, none⟩)) ∧ -2147483648 ≤ r ∧ r ≤ 2147483647 ∧ Below w.heap.size w w' :=
  (drawIn_any A n c w hn hA).mono fun e w' ⟨A', c', es, r, he, hl, hL, hr0, hr1, hb⟩ => ⟨A', c', es.map Ent.t, r, by rw [he, List.length_map], by rw [List.length_map]; exact hl, hL.rdT, hL.small, by rw [List.length_map]; have := own_cap hL.1; unfold maxLen at this; exact ⟨by omega, by omega, own_at hL.1⟩, hr0, hr1, hb⟩

theorem SrtT.take {ts : List Tab} (h : SrtT ts) (k : Nat) : SrtT (ts.take k) := fun t ht => h t (List.mem_of_mem_take ht)
theorem SrtT.drop {ts : List Tab} (h : SrtT ts) (k : Nat) : SrtT (ts.drop k) := fun t ht => h t (List.mem_of_mem_drop ht)
theorem RdT.take {w : World} {B : Nat} {A : Option Addr} {ts : List Tab} (h : RdT w B A ts) (k : Nat) : RdT w B A (ts.take k) := by
  refine ⟨fun t ht => h.1 t (List.mem_of_mem_take ht), fun hl => ?_⟩
  have hl' : 0 < ts.length := by rw [List.length_take] at hl; omega
  obtain ⟨b, off, e, hb, hc⟩ := h.2 hl'
  refine ⟨b, off, e, hb, fun i t ht => hc i t ?_⟩
  have hi := (List.getElem?_eq_some_iff.1 ht).1
  rw [List.length_take] at hi
  rw [List.getElem?_take_of_lt (by omega)] at ht
  exact ht
theorem RdT.drop {w : World} {B b off : Nat} {ts : List Tab} (h : RdT w B (some ⟨b, off, none⟩) ts) (k : Nat) : RdT w B (some ⟨b, off + k * 3, none⟩) (ts.drop k) := by
  refine ⟨fun t ht => h.1 t (List.mem_of_mem_drop ht), fun hl => ?_⟩
  have hl' : 0 < ts.length := by rw [List.length_drop] at hl; omega
  obtain ⟨b', off', e, hb, hc⟩ := h.2 hl'
  injection e with e
  injection e with e1 e2
  subst e1 e2
  refine ⟨b, off + k * 3, rfl, hb, fun i t ht => ?_⟩
  rw [List.getElem?_drop] at ht
  have := hc (k + i) t ht
  rw [show off + (k + i) * 3 = off + k * 3 + i * 3 from by omega] at this
  exact this
/-- The contract of In for the first k tables of a list. -/
theorem implIn_take (A' : Option Addr) (c' : Nat) (ts : List Tab) (k : Nat) (r : Int) (w : World) (hk : k ≤ ts.length) (hl : ts.length ≤ 5) (hr0 : -2147483648 ≤ r) (hr1 : r ≤ 2147483647) (hs : SrtT ts) (hT : RdT w w.heap.size A' ts) :
    Calls Try.prog 15 #[.int .i32 r, .slice A' k c'] w fun e w' => e = .returned (.bool ((ts.take k).any (isB · r))) ∧ Below w.heap.size w w' := by
  have h := implIn_any A' c' (ts.take k) r w hr0 hr1 (by rw [List.length_take]; omega) (hs.take k) (hT.take k)
  rw [List.length_take, Nat.min_eq_left hk] at h
  exact h
/-- The contract of In for all tables but the first k. -/
theorem implIn_drop (A' : Option Addr) (c' d : Nat) (ts : List Tab) (k : Nat) (r : Int) (w : World) (hd : d = ts.length - k) (hl : ts.length ≤ 5) (hr0 : -2147483648 ≤ r) (hr1 : r ≤ 2147483647) (hs : SrtT ts) (hT : RdT w w.heap.size A' (ts.drop k)) :
    Calls Try.prog 15 #[.int .i32 r, .slice A' d c'] w fun e w' => e = .returned (.bool ((ts.drop k).any (isB · r))) ∧ Below w.heap.size w w' := by
  have h := implIn_any A' c' (ts.drop k) r w hr0 hr1 (by rw [List.length_drop]; omega) (hs.drop k) hT
  rw [List.length_drop, ← hd] at h
  exact h
theorem any_parts (ts : List Tab) (p : Tab → Bool) (k : Nat) : ts.any p = ((ts.take k).any p || (ts.drop k).any p) := by
  rw [← List.any_append, List.take_append_drop]
theorem any_snoc {ts : List Tab} {p : Tab → Bool} {k : Nat} {t : Tab} (h : ts[k]? = some t) : (ts.take (k + 1)).any p = ((ts.take k).any p || p t) := by
  rw [takeT_snoc h, List.any_append]
  simp
end Go.Proofs.Ytnhmacmpobkdoaa
