/- append of any slice, nil and empty ones too, onto a row of the call's own. No program occurs here. -/
import Derived.Test.YtnhmacmpobkdoaaBlk
namespace Go.Proofs.Ytnhmacmpobkdoaa
open Go.RowKit
set_option linter.unusedVariables false

section
variable {P : Program} (w : World)
theorem run_append_all (t ty : TypeId) (base : Nat) (e : TypeId) (i : TypeInfo) (z : Value) (size bytes : Nat) (ht : P.underlying t = some (.slice e)) (hi : P.info? e = some i) (hz : i.zero = some z)
    (hsize : i.size = size) (hby : i.bytes = bytes) (hzs : z.cells.size = size) (hsz : 0 < size)
    (v : Value) (n : Nat) (xs : List Value) (hown : w.ownsRow base e size v n xs)
    (ao : Option Addr) (m c : Nat) (news : List Value) (hl : news.length = m * size) (hnone : ao = none → m = 0 ∧ c = 0) (hnews : ∀ ad, ao = some ad → ∀ j u, news[j]? = some u → w.cell? (ad.add j) = some u) (h1 : ∀ u ∈ news, u.oneCell' = true)
    (h63 : n + m ≤ maxLen) (hbytes : (n + m) * bytes ≤ 140737488355328) (hbase : base ≤ w.heap.size) :
    ∃ A' cap w', (Builtin.append_ #[t, t] ty #[v, .slice ao m c]).run P w = .ok (.slice A' (n + m) cap) w' ∧
      w'.ownsRow base e size (.slice A' (n + m) cap) (n + m) (xs ++ news) ∧ w.grownBy w' v.ownBlock ∧ ((Value.slice A' (n + m) cap).ownBlock = v.ownBlock ∨ (Value.slice A' (n + m) cap).ownBlock = some w.heap.size) := by
  have shape : ∀ {v' : Value} {k : Nat} {w' : World} {ys : List Value}, w'.ownsRow base e size v' k ys → ∃ A' cap, v' = .slice A' k cap := by
    intro v' k w' ys h
    rcases h.2 with ⟨rfl, rfl⟩ | ⟨g, cap, cur, rfl, _⟩
    · exact ⟨none, 0, rfl⟩
    · exact ⟨_, _, rfl⟩
  cases ao with
  | none =>
    obtain ⟨rfl, rfl⟩ := hnone rfl
    have hnil : news = [] := List.eq_nil_of_length_eq_zero (by simpa using hl)
    subst hnil
    obtain ⟨A', cap, rfl⟩ := shape hown
    exact ⟨A', cap, w, run_append_owned_none (P := P) w base t ty e i size ht hi _ n xs hown, by simpa using hown, World.grownBy.refl _ _, .inl rfl⟩
  | some ad =>
    obtain ⟨v', w', hr, h2, h3, _, h5⟩ := run_append_own_at (P := P) w base t ty e i z size bytes ht hi hz hsize hby hzs hsz v n xs hown ad m c news hl (hnews ad rfl) h1 h63 hbytes hbase
    obtain ⟨A', cap, rfl⟩ := shape h2
    exact ⟨A', cap, w', hr, h2, h3, h5⟩

theorem wp_append_all {o : Oper} {a : Act} {K : Act → World → Prop} {Q : Exit → Act → World → Prop} (s x : Operand) (t : TypeId)
    (ho : o.op = .call { callee := .builtin .append, args := #[s, x], argTypes := #[t, t] })
    (base : Nat) (e : TypeId) (i : TypeInfo) (z : Value) (size bytes : Nat) (ht : P.underlying t = some (.slice e)) (hi : P.info? e = some i) (hz : i.zero = some z)
    (hsize : i.size = size) (hby : i.bytes = bytes) (hzs : z.cells.size = size) (hsz : 0 < size)
    (v : Value) (n : Nat) (xs : List Value) (hs : a.eval s = v) (hown : w.ownsRow base e size v n xs)
    (ao : Option Addr) (m c : Nat) (news : List Value) (hx : a.eval x = .slice ao m c) (hl : news.length = m * size) (hnone : ao = none → m = 0 ∧ c = 0) (hnews : ∀ ad, ao = some ad → ∀ j u, news[j]? = some u → w.cell? (ad.add j) = some u) (h1 : ∀ u ∈ news, u.oneCell' = true)
    (h63 : n + m ≤ maxLen) (hbytes : (n + m) * bytes ≤ 140737488355328) (hbase : base ≤ w.heap.size)
    (h : ∀ A' cap w', w'.ownsRow base e size (.slice A' (n + m) cap) (n + m) (xs ++ news) → w.grownBy w' v.ownBlock → ((Value.slice A' (n + m) cap).ownBlock = v.ownBlock ∨ (Value.slice A' (n + m) cap).ownBlock = some w.heap.size) → K (a.put o.dst (.slice A' (n + m) cap)) w') : o.wp P a w K Q := by
  obtain ⟨A', cap, w', hr, h2, h3, h4⟩ := run_append_all (P := P) w t o.type base e i z size bytes ht hi hz hsize hby hzs hsz v n xs hown ao m c news hl hnone hnews h1 h63 hbytes hbase
  unfold Oper.wp execOp
  simp only [ho, resolve, invoke, builtin, Sem.run_bind, Sem.run_pure, Result.andThen_ok, List.map_toArray, List.map_cons, List.map_nil, hs, hx, hr]
  exact h A' cap w' h2 h3 h4

theorem wpList_append_all {ops : Array Oper} {rest : List Oper} {o : Oper} {a : Act} {Q : Exit → Act → World → Prop} (hgd : o.guard = none) (s x : Operand) (t : TypeId)
    (ho : o.op = .call { callee := .builtin .append, args := #[s, x], argTypes := #[t, t] })
    (base : Nat) (e : TypeId) (i : TypeInfo) (z : Value) (size bytes : Nat) (ht : P.underlying t = some (.slice e)) (hi : P.info? e = some i) (hz : i.zero = some z)
    (hsize : i.size = size) (hby : i.bytes = bytes) (hzs : z.cells.size = size) (hsz : 0 < size)
    (v : Value) (n : Nat) (xs : List Value) (hs : a.eval s = v) (hown : w.ownsRow base e size v n xs)
    (ao : Option Addr) (m c : Nat) (news : List Value) (hx : a.eval x = .slice ao m c) (hl : news.length = m * size) (hnone : ao = none → m = 0 ∧ c = 0) (hnews : ∀ ad, ao = some ad → ∀ j u, news[j]? = some u → w.cell? (ad.add j) = some u) (h1 : ∀ u ∈ news, u.oneCell' = true)
    (h63 : n + m ≤ maxLen) (hbytes : (n + m) * bytes ≤ 140737488355328) (hbase : base ≤ w.heap.size)
    (h : ∀ A' cap w', w'.ownsRow base e size (.slice A' (n + m) cap) (n + m) (xs ++ news) → w.grownBy w' v.ownBlock → ((Value.slice A' (n + m) cap).ownBlock = v.ownBlock ∨ (Value.slice A' (n + m) cap).ownBlock = some w.heap.size) → wpList P ops Q rest (a.put o.dst (.slice A' (n + m) cap)) w') : wpList P ops Q (o :: rest) a w :=
  wpList_plain hgd fun _ hK => wp_append_all w s x t ho base e i z size bytes ht hi hz hsize hby hzs hsz v n xs hs hown ao m c news hx hl hnone hnews h1 h63 hbytes hbase fun A' cap w' h2 h3 h4 => hK _ _ (h A' cap w' h2 h3 h4)

theorem step_append_all {ops : Array Oper} {o : Oper} {a : Act} {K : Act → World → Prop} {Q : Exit → Act → World → Prop} {E : Prop} (hgd : o.guard = none) (s x : Operand) (t : TypeId)
    (ho : o.op = .call { callee := .builtin .append, args := #[s, x], argTypes := #[t, t] })
    (base : Nat) (e : TypeId) (i : TypeInfo) (z : Value) (size bytes : Nat) (ht : P.underlying t = some (.slice e)) (hi : P.info? e = some i) (hz : i.zero = some z)
    (hsize : i.size = size) (hby : i.bytes = bytes) (hzs : z.cells.size = size) (hsz : 0 < size)
    (v : Value) (n : Nat) (xs : List Value) (hs : a.eval s = v) (hown : w.ownsRow base e size v n xs)
    (ao : Option Addr) (m c : Nat) (news : List Value) (hx : a.eval x = .slice ao m c) (hl : news.length = m * size) (hnone : ao = none → m = 0 ∧ c = 0) (hnews : ∀ ad, ao = some ad → ∀ j u, news[j]? = some u → w.cell? (ad.add j) = some u) (h1 : ∀ u ∈ news, u.oneCell' = true)
    (h63 : n + m ≤ maxLen) (hbytes : (n + m) * bytes ≤ 140737488355328) (hbase : base ≤ w.heap.size)
    (h : ∀ A' cap w', w'.ownsRow base e size (.slice A' (n + m) cap) (n + m) (xs ++ news) → w.grownBy w' v.ownBlock → ((Value.slice A' (n + m) cap).ownBlock = v.ownBlock ∨ (Value.slice A' (n + m) cap).ownBlock = some w.heap.size) → K (a.put o.dst (.slice A' (n + m) cap)) w') :
    if Region.wanted o (yielded ops a.tmps) = true then Oper.wp P o a w K Q else E := by
  have hw : Region.wanted o (yielded ops a.tmps) = true := by simp [Region.wanted, hgd]
  rw [if_pos hw]
  exact wp_append_all w s x t ho base e i z size bytes ht hi hz hsize hby hzs hsz v n xs hs hown ao m c news hx hl hnone hnews h1 h63 hbytes hbase h
end
/-- A new empty row. -/
theorem own_empty {w : World} {base g : Nat} {e : TypeId} (hb : base ≤ g) (h : Bk w g e #[]) : w.ownsRow base e 3 (.slice (some ⟨g, 0, none⟩) 0 0) 0 [] :=
  ⟨rfl, .inr ⟨g, 0, #[], rfl, hb, h, Nat.le_refl _, by unfold maxLen; omega, rfl, rfl⟩⟩
theorem news_one {w : World} {g : Nat} {cs : Array Value} {t : TypeId} (hb : Bk w g t cs) : ∀ ad, some (⟨g, 0, none⟩ : Addr) = some ad → ∀ j u, cs.toList[j]? = some u → w.cell? (ad.add j) = some u := fun ad h => by
  injection h with h
  subst h
  exact World.news_of_block hb
/-- The cells of a list of ranges that lies in memory, one by one. -/
theorem cellsL_get (k : IntKind) : ∀ (l : List Rg) (j : Nat) (u : Value), (cellsL k l)[j]? = some u → ∃ i x, l[i]? = some x ∧ ((j = i * 3 ∧ u = .int k x.lo) ∨ (j = i * 3 + 1 ∧ u = .int k x.hi) ∨ (j = i * 3 + 2 ∧ u = .int k x.st)) := by
  intro l
  induction l with
  | nil => intro j u h; simp [cellsL] at h
  | cons y r ih =>
    intro j u h
    have e : cellsL k (y :: r) = .int k y.lo :: .int k y.hi :: .int k y.st :: cellsL k r := rfl
    rw [e] at h
    match j, h with
    | 0, h => simp at h; exact ⟨0, y, rfl, .inl ⟨rfl, h.symm⟩⟩
    | 1, h => simp at h; exact ⟨0, y, rfl, .inr (.inl ⟨rfl, h.symm⟩)⟩
    | 2, h => simp at h; exact ⟨0, y, rfl, .inr (.inr ⟨rfl, h.symm⟩)⟩
    | j + 3, h =>
      simp only [List.getElem?_cons_succ] at h
      obtain ⟨i, x, hx, hh⟩ := ih j u h
      refine ⟨i + 1, x, by simpa using hx, ?_⟩
      rcases hh with ⟨rfl, hu⟩ | ⟨rfl, hu⟩ | ⟨rfl, hu⟩
      · exact .inl ⟨by omega, hu⟩
      · exact .inr (.inl ⟨by omega, hu⟩)
      · exact .inr (.inr ⟨by omega, hu⟩)
theorem rd_news {w : World} {B : Nat} {k : IntKind} {M : Int} {A : Option Addr} {l : List Rg} (h : Rd w B k M A l) : ∀ ad, A = some ad → ∀ j u, (cellsL k l)[j]? = some u → w.cell? (ad.add j) = some u := fun ad hA j u hu => by
  obtain ⟨i, x, hx, hh⟩ := cellsL_get k l j u hu
  obtain ⟨b, off, e, hb, hc⟩ := h.2 (by have := (List.getElem?_eq_some_iff.1 hx).1; omega)
  rw [hA] at e
  injection e with e
  subst e
  have ad' : (⟨b, off, none⟩ : Addr).add j = ⟨b, off + j, none⟩ := by unfold Addr.add; split <;> simp_all
  rw [ad']
  obtain ⟨c0, c1, c2⟩ := hc i x hx
  rcases hh with ⟨rfl, rfl⟩ | ⟨rfl, rfl⟩ | ⟨rfl, rfl⟩
  · exact c0
  · rw [← Nat.add_assoc]; exact c1
  · rw [← Nat.add_assoc]; exact c2
end Go.Proofs.Ytnhmacmpobkdoaa
