/- Lists of tables in a row of the call's own, whose ranges lie in what was there before. -/
import Derived.Test.YtllnkjkoihmifaaLawV
namespace Go.Proofs.Ytllnkjkoihmifaa
open Go.RowKit
set_option linter.unusedVariables false

/-- An entry's ranges lie in the world W. -/
def EntR (W : World) (x : Ent) : Prop := Rd W W.heap.size .u16 65536 x.p x.t.a ∧ Rd W W.heap.size .u32 4294967296 x.q x.t.b ∧ x.t.a.length ≤ 9223372036854775807 ∧ x.t.b.length ≤ 9223372036854775807
def LstR (W : World) (A' : Option Addr) (c' : Nat) (fs : List Ent) (wr : World) : Prop :=
  wr.ownsRow W.heap.size 35 3 (.slice A' fs.length c') fs.length (cellsE fs) ∧ (∀ x ∈ fs, EntR W x) ∧ Below W.heap.size W wr
section
variable {W : World} {A' : Option Addr} {c' : Nat} {fs : List Ent} {wr w1 : World}
theorem LstR.start (hb : Below W.heap.size W wr) : LstR W (some ⟨wr.heap.size, 0, none⟩) 0 [] (wr.alloc (.cells #[] 35)) :=
  ⟨⟨rfl, .inr ⟨wr.heap.size, 0, #[], rfl, hb.size, heap_alloc_new _ _, Nat.le_refl _, by unfold maxLen; omega, rfl, rfl⟩⟩, (fun x hx => by cases hx), hb.alloc hb.size _⟩
theorem LstR.alloc (h : LstR W A' c' fs wr) (o : Obj) : LstR W A' c' fs (wr.alloc o) := ⟨h.1.alloc o, h.2.1, h.2.2.alloc h.2.2.size o⟩
theorem LstR.below (h : LstR W A' c' fs wr) (hb : Below wr.heap.size wr w1) : LstR W A' c' fs w1 := ⟨own_below h.1 hb, h.2.1, h.2.2.trans (hb.mono h.2.2.size)⟩
theorem LstR.more {g cap : Nat} {gs : List Ent} (h : LstR W A' c' fs wr) (hx : ∀ x ∈ gs, EntR W x)
    (hown : w1.ownsRow W.heap.size 35 3 (.slice (some ⟨g, 0, none⟩) (fs.length + gs.length) cap) (fs.length + gs.length) (cellsE fs ++ cellsE gs)) (hgrow : wr.grownBy w1 (Value.slice A' fs.length c').ownBlock) :
    LstR W (some ⟨g, 0, none⟩) cap (fs ++ gs) w1 := by
  refine ⟨by rw [cellsE_append, List.length_append]; exact hown, fun y hy => ?_, h.2.2.grown hgrow h.2.2.size (own_ge h.1)⟩
  rcases List.mem_append.1 hy with hy | hy
  · exact h.2.1 y hy
  · exact hx y hy
theorem LstR.rdT (h : LstR W A' c' fs wr) : RdT wr wr.heap.size A' (fs.map Ent.t) := by
  refine ⟨fun t ht => ?_, fun hl => ?_⟩
  · obtain ⟨x, hx, rfl⟩ := List.mem_map.1 ht
    exact ⟨(h.2.1 x hx).2.2.1, (h.2.1 x hx).2.2.2⟩
  · rw [List.length_map] at hl
    obtain ⟨g, cap, hv, _, hlt⟩ := h.1.form hl
    have hA : A' = some ⟨g, 0, none⟩ := by injection hv
    subst hA
    have hc := h.1.cells (g := g) rfl
    have ad : ∀ j, (⟨g, 0, none⟩ : Addr).add j = ⟨g, 0 + j, none⟩ := fun j => by unfold Addr.add; split <;> simp_all
    refine ⟨g, 0, rfl, hlt, fun i t ht => ?_⟩
    rw [List.getElem?_map] at ht
    obtain ⟨x, hx, rfl⟩ := Option.map_eq_some_iff.1 ht
    obtain ⟨h1, h2, h3⟩ := cellsE_at fs i x hx
    have k1 := hc _ _ h1
    have k2 := hc _ _ h2
    have k3 := hc _ _ h3
    rw [ad] at k1 k2 k3
    have hT := h.2.1 x (List.mem_of_getElem? hx)
    exact ⟨x.p, x.cp, x.q, x.cq, k1, k2, k3, hT.1.to h.2.2, hT.2.1.to h.2.2⟩
/-- The contract of In for such a list. -/
theorem implIn_lst (r : Int) (hL : LstR W A' c' fs wr) (hl : fs.length ≤ 100) (hr0 : -2147483648 ≤ r) (hr1 : r ≤ 2147483647) (hs : SrtT (fs.map Ent.t)) :
    Calls Try.prog 15 #[.int .i32 r, .slice A' fs.length c'] wr fun e w' => e = .returned (.bool ((fs.map Ent.t).any (isB · r))) ∧ Below wr.heap.size wr w' := by
  have h := implIn_any A' c' (fs.map Ent.t) r wr hr0 hr1 (by rw [List.length_map]; omega) hs hL.rdT
  rw [List.length_map] at h
  exact h
end
/-- A list that came in, as entries. -/
theorem RdT.ents {W : World} {b off : Nat} {ts : List Tab} (h : RdT W W.heap.size (some ⟨b, off, none⟩) ts) : ∃ es : List Ent, es.map Ent.t = ts ∧ (∀ x ∈ es, EntR W x) ∧ (∀ i x, es[i]? = some x → W.cell? ⟨b, off + i * 3, none⟩ = some (.slice x.p x.t.a.length x.cp) ∧ W.cell? ⟨b, off + i * 3 + 1, none⟩ = some (.slice x.q x.t.b.length x.cq) ∧ W.cell? ⟨b, off + i * 3 + 2, none⟩ = some (.int .i64 x.t.n)) := by
  have key : ∀ k, k ≤ ts.length → ∃ es : List Ent, es.map Ent.t = ts.take k ∧ (∀ x ∈ es, EntR W x) ∧ (∀ i x, es[i]? = some x → W.cell? ⟨b, off + i * 3, none⟩ = some (.slice x.p x.t.a.length x.cp) ∧ W.cell? ⟨b, off + i * 3 + 1, none⟩ = some (.slice x.q x.t.b.length x.cq) ∧ W.cell? ⟨b, off + i * 3 + 2, none⟩ = some (.int .i64 x.t.n)) := by
    intro k
    induction k with
    | zero => intro _; exact ⟨[], rfl, (fun x hx => by cases hx), fun i x hx => by simp at hx⟩
    | succ k ih =>
      intro hk
      obtain ⟨es, h1, h2, h3⟩ := ih (by omega)
      obtain ⟨b', off', t, A16, c16, A32, c32, e, hb, ht, k0, k1, k2, ra, rb, l1, l2⟩ := h.at_ (i := k) (by omega)
      injection e with e
      injection e with e1 e2
      subst e1 e2
      have hlen : es.length = k := by
        have := congrArg List.length h1
        rw [List.length_map, List.length_take] at this
        omega
      refine ⟨es ++ [⟨A16, c16, A32, c32, t⟩], by rw [List.map_append, h1, takeT_snoc ht]; rfl, fun x hx => ?_, fun i x hx => ?_⟩
      · rcases List.mem_append.1 hx with hx | hx
        · exact h2 x hx
        · rw [List.mem_singleton] at hx
          subst hx
          exact ⟨ra, rb, l1, l2⟩
      · rcases Nat.lt_or_ge i es.length with hi | hi
        · rw [List.getElem?_append_left hi] at hx
          exact h3 i x hx
        · have hin : i = es.length := by
            have := (List.getElem?_eq_some_iff.1 hx).1
            simp at this
            omega
          subst hin
          rw [List.getElem?_append_right (by omega)] at hx
          simp at hx
          subst hx
          rw [hlen]
          exact ⟨k0, k1, k2⟩
  obtain ⟨es, h1, h2, h3⟩ := key ts.length (Nat.le_refl _)
  rw [List.take_length] at h1
  exact ⟨es, h1, h2, h3⟩
end Go.Proofs.Ytllnkjkoihmifaa
