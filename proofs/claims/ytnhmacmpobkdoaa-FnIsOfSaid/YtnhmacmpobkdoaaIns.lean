/- Plain facts on a number put into an ascending list; and appends onto a new row of numbers, at a step of a region that draws its order. -/
import Derived.Test.YtnhmacmpobkdoaaMembers
import Derived.Test.YtnhmacmpobkdoaaFill
namespace Go.Proofs.Ytnhmacmpobkdoaa
open Go.RowKit
set_option linter.unusedVariables false
/-- The numbers ahead of index k are less than y. -/
def Pre (os : List Int) (y : Int) (k : Nat) : Prop := ∀ z ∈ os.take k, z < y
theorem Pre.zero (os : List Int) (y : Int) : Pre os y 0 := fun z hz => by simp at hz
theorem Pre.succ {os : List Int} {y x : Int} {k : Nat} (h : Pre os y k) (hx : os[k]? = some x) (hl : x < y) : Pre os y (k + 1) := fun z hz => by
  obtain ⟨hk, rfl⟩ := List.getElem?_eq_some_iff.1 hx
  rw [List.take_succ_eq_append_getElem hk] at hz
  rcases List.mem_append.1 hz with hz | hz
  · exact h z hz
  · rw [List.mem_singleton] at hz; subst hz; exact hl
/-- What has been sorted of the first i numbers. -/
def Std (zs : List Int) (i : Nat) (os : List Int) : Prop := Asc os ∧ (∀ z, z ∈ os ↔ (z ∈ zs.take i ∧ 0 ≤ z ∧ z ≤ 1114111)) ∧ os.length ≤ i
theorem Std.start (zs : List Int) : Std zs 0 [] := ⟨List.Pairwise.nil, fun z => by simp, Nat.le_refl _⟩
theorem take_snocI {zs : List Int} {i : Nat} {y : Int} (h : zs[i]? = some y) : zs.take (i + 1) = zs.take i ++ [y] := by
  obtain ⟨hi, rfl⟩ := List.getElem?_eq_some_iff.1 h
  exact List.take_succ_eq_append_getElem hi
/-- A number that is no code point, or is there, is left out. -/
theorem Std.skip {zs os : List Int} {i : Nat} {y : Int} (h : Std zs i os) (hy : zs[i]? = some y) (hn : (y < 0 ∨ 1114111 < y) ∨ y ∈ os) : Std zs (i + 1) os := by
  refine ⟨h.1, fun z => ?_, by have := h.2.2; omega⟩
  rw [take_snocI hy, List.mem_append, List.mem_singleton]
  constructor
  · intro hz
    obtain ⟨h1, h2⟩ := (h.2.1 z).1 hz
    exact ⟨.inl h1, h2⟩
  · rintro ⟨h1 | rfl, h2, h3⟩
    · exact (h.2.1 z).2 ⟨h1, h2, h3⟩
    · rcases hn with hn | hn
      · omega
      · exact hn
theorem Std.put {zs os : List Int} {i k : Nat} {y : Int} (h : Std zs i os) (hy : zs[i]? = some y) (h0 : 0 ≤ y) (h1 : y ≤ 1114111) (hp : Pre os y k) (hs : ∀ z ∈ os.drop k, y < z) : Std zs (i + 1) (os.take k ++ [y] ++ os.drop k) := by
  have hA : Asc (os.take k ++ os.drop k) := by rw [List.take_append_drop]; exact h.1
  obtain ⟨p1, p2, p3⟩ := List.pairwise_append.1 hA
  refine ⟨?_, fun z => ?_, ?_⟩
  · refine List.pairwise_append.2 ⟨List.pairwise_append.2 ⟨p1, List.pairwise_singleton _ _, fun a ha b hb => ?_⟩, p2, fun a ha b hb => ?_⟩
    · rw [List.mem_singleton] at hb; subst hb; exact hp a ha
    · rcases List.mem_append.1 ha with ha | ha
      · exact p3 a ha b hb
      · rw [List.mem_singleton] at ha; subst ha; exact hs b hb
  · have hm : z ∈ os ↔ z ∈ os.take k ∨ z ∈ os.drop k := by rw [← List.mem_append, List.take_append_drop]
    have hz := h.2.1 z
    rw [hm] at hz
    rw [take_snocI hy]
    simp only [List.mem_append, List.mem_singleton]
    constructor
    · rintro ((a | rfl) | a)
      · exact ⟨.inl (hz.1 (.inl a)).1, (hz.1 (.inl a)).2⟩
      · exact ⟨.inr rfl, h0, h1⟩
      · exact ⟨.inl (hz.1 (.inr a)).1, (hz.1 (.inr a)).2⟩
    · rintro ⟨a | rfl, b, c⟩
      · rcases hz.2 ⟨a, b, c⟩ with d | d
        · exact .inl (.inl d)
        · exact .inr d
      · exact .inl (.inr rfl)
  · have := h.2.2
    rw [List.length_append, List.length_append, List.length_take, List.length_drop, List.length_singleton]
    omega
theorem drop_gt {os : List Int} {k : Nat} {x y : Int} (h : Asc os) (hx : os[k]? = some x) (hy : y < x) : ∀ z ∈ os.drop k, y < z := fun z hz => by
  rw [drop_consI hx] at hz
  have hA : Asc (os.take k ++ os.drop k) := by rw [List.take_append_drop]; exact h
  have p2 := (List.pairwise_append.1 hA).2.1
  rw [drop_consI hx] at p2
  rcases List.mem_cons.1 hz with rfl | hz
  · exact hy
  · have := (List.pairwise_cons.1 p2).1 z hz; omega

/-- append onto a row that the call owns, all new behind wd. -/
theorem step_put {P : Program} {ops : Array Oper} {o : Oper} {a : Act} {K : Act → World → Prop} {Q : Exit → Act → World → Prop} {E : Prop} {W : World} (wd : World) (hgd : o.guard = none) (s x : Operand) (t : TypeId)
    (ho : o.op = .call { callee := .builtin .append, args := #[s, x], argTypes := #[t, t] })
    (e : TypeId) (i : TypeInfo) (z : Value) (bytes : Nat) (ht : P.underlying t = some (.slice e)) (hi : P.info? e = some i) (hz : i.zero = some z)
    (hsize : i.size = 1) (hby : i.bytes = bytes) (hzs : z.cells.size = 1)
    (v : Value) (n : Nat) (xs : List Value) (hs : a.eval s = v) (hown : W.ownsRow wd.heap.size e 1 v n xs) (hb : Below wd.heap.size wd W)
    (ao : Option Addr) (m c : Nat) (news : List Value) (hx : a.eval x = .slice ao m c) (hl : news.length = m * 1) (hnone : ao = none → m = 0 ∧ c = 0) (hnews : ∀ ad, ao = some ad → ∀ j u, news[j]? = some u → W.cell? (ad.add j) = some u) (h1 : ∀ u ∈ news, u.oneCell' = true)
    (h63 : n + m ≤ maxLen) (hbytes : (n + m) * bytes ≤ 140737488355328)
    (h : ∀ A' cap w', w'.ownsRow wd.heap.size e 1 (.slice A' (n + m) cap) (n + m) (xs ++ news) → Below wd.heap.size wd w' → (∀ j t cs, Bk W j t cs → some j ≠ v.ownBlock → Bk w' j t cs) → W.heap.size ≤ w'.heap.size → K (a.put o.dst (.slice A' (n + m) cap)) w') :
    if Region.wanted o (yielded ops a.tmps) = true then Oper.wp P o a W K Q else E := by
  refine step_append_all W hgd s x t ho wd.heap.size e i z 1 bytes ht hi hz hsize hby hzs (by omega) v n xs hs hown ao m c news hx hl hnone hnews h1 h63 hbytes hb.size ?_
  intro A' cap w' hown' hgrow hat
  exact h A' cap w' hown' (hb.grown hgrow hb.size (own_ge hown)) (fun j t cs hj hne => hj.grown hgrow hne) hgrow.size
theorem own_empty1 {w : World} {base g : Nat} {e : TypeId} (hb : base ≤ g) (h : Bk w g e #[]) : w.ownsRow base e 1 (.slice (some ⟨g, 0, none⟩) 0 0) 0 [] :=
  ⟨rfl, .inr ⟨g, 0, #[], rfl, hb, h, Nat.le_refl _, by unfold maxLen; omega, rfl, rfl⟩⟩
end Go.Proofs.Ytnhmacmpobkdoaa
