/- Plain: what is in the merged table. -/
import Derived.Test.YtnhmacmpobkdoaaMerged
import Derived.Test.YtnhmacmpobkdoaaLawX
namespace Go.Proofs.Ytnhmacmpobkdoaa
set_option linter.unusedVariables false
theorem length_membersL16 {a : List Rg} (v1 : Srt 0 65535 a) (h : Stp a) : (membersL a).length ≤ a.length * 65536 := by
  have key : ∀ l : List Rg, Stp l → (∀ x ∈ l, 0 ≤ x.lo ∧ x.hi ≤ 65535) → (membersL l).length ≤ l.length * 65536 := by
    intro l
    induction l with
    | nil => intro _ _; simp [membersL]
    | cons x l ih =>
      intro h hb
      rw [membersL_cons, List.length_append, List.length_cons]
      have h1 := ih h.tail fun y hy => hb y (by simp [hy])
      have h2 := hb x (by simp)
      have h3 := length_mems (hi := x.hi) (st := x.st) h.head.1 65536 x.lo (by omega)
      omega
  exact key a h fun x hx => by obtain ⟨j, hj, rfl⟩ := mem_getD hx; exact ⟨(v1 j hj).2.2.1, (v1 j hj).2.2.2.1⟩
theorem mrg_is {t0 t1 : Tab} {zs : List Int} {m r : Int} (s0 : Stp t0.a) (s1 : Stp t0.b) (s2 : Stp t1.a) (s3 : Stp t1.b) (h : ∀ z, z ∈ zs ↔ (z ∈ membersL t0.a ++ membersL t0.b ∨ z ∈ membersL t1.a ++ membersL t1.b)) :
    isB ⟨ofA zs, ofB zs, m⟩ r = (isB t0 r || isB t1 r) := by
  rw [isB_of]
  have e0 : decide (r ∈ membersL t0.a ++ membersL t0.b) = isB t0 r := isB_members s0 s1 t0.n r
  have e1 : decide (r ∈ membersL t1.a ++ membersL t1.b) = isB t1 r := isB_members s2 s3 t1.n r
  rw [← e0, ← e1, Bool.eq_iff_iff]
  simp only [decide_eq_true_eq, Bool.or_eq_true]
  exact h r
theorem take2 {ts : List Tab} {t0 t1 : Tab} (h0 : ts[0]? = some t0) (h1 : ts[1]? = some t1) : ts.take 2 = [t0, t1] := by
  match ts, h0, h1 with
  | x :: y :: r, h0, h1 => simp at h0 h1; subst h0 h1; rfl
theorem hi_le {b : List Rg} (v2 : Srt 65536 1114111 b) : ∀ x ∈ b, x.hi ≤ 1114111 := fun x hx => by obtain ⟨j, hj, rfl⟩ := mem_getD hx; exact (v2 j hj).2.2.2.1
theorem len_members {a b : List Rg} (v1 : Srt 0 65535 a) (v2 : Srt 65536 1114111 b) (sa : Stp a) (sb : Stp b) (la : a.length ≤ 40) (lb : b.length ≤ 40) : (membersL a ++ membersL b).length ≤ 50000000 := by
  have h1 := length_membersL16 v1 sa
  have h2 := length_membersL sb (fun x hx => by obtain ⟨j, hj, rfl⟩ := mem_getD hx; exact ⟨by have := (v2 j hj).2.2.1; omega, (v2 j hj).2.2.2.1⟩)
  rw [List.length_append]; omega
end Go.Proofs.Ytnhmacmpobkdoaa
