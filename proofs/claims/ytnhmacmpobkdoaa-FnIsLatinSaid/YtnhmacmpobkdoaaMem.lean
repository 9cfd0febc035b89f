/- How lists of ranges lie in memory, and what keeps them there. No program occurs here. -/
import Derived.Test.YtnhmacmpobkdoaaPlain
import Derived.WalkKit
import Derived.Deep.Draws
import Derived.Lib.Hide
import Derived.Deep.AppendLies
namespace Go.Proofs.Ytnhmacmpobkdoaa
open Go.RowKit

/-- The slice at A holds the ranges l, three cells each, of kind k, below block B; all numbers are from 0 to below M. -/
def Rd (w : World) (B : Nat) (k : IntKind) (M : Int) (A : Option Addr) (l : List Rg) : Prop :=
  Wf M l ∧ (0 < l.length → ∃ b off, A = some ⟨b, off, none⟩ ∧ b < B ∧ ∀ i x, l[i]? = some x →
    w.cell? ⟨b, off + i * 3, none⟩ = some (.int k x.lo) ∧ w.cell? ⟨b, off + i * 3 + 1, none⟩ = some (.int k x.hi) ∧ w.cell? ⟨b, off + i * 3 + 2, none⟩ = some (.int k x.st))

section
variable {w w' : World} {B B' : Nat} {k : IntKind} {M : Int} {A : Option Addr} {l : List Rg}
theorem Rd.wf (h : Rd w B k M A l) : Wf M l := h.1
theorem Rd.nil : Rd w B k M A [] := ⟨(fun x hx => by cases hx), (fun h => by simp at h)⟩
theorem Rd.at_ {i : Nat} (h : Rd w B k M A l) (hi : i < l.length) : ∃ b off x, A = some ⟨b, off, none⟩ ∧ b < B ∧ l.getD i ⟨0, 0, 0⟩ = x ∧
    w.cell? ⟨b, off + i * 3, none⟩ = some (.int k x.lo) ∧ w.cell? ⟨b, off + i * 3 + 1, none⟩ = some (.int k x.hi) ∧ w.cell? ⟨b, off + i * 3 + 2, none⟩ = some (.int k x.st) ∧
    0 ≤ x.lo ∧ x.lo < M ∧ 0 ≤ x.hi ∧ x.hi < M ∧ 0 ≤ x.st ∧ x.st < M := by
  obtain ⟨b, off, e, hb, hc⟩ := h.2 (by omega)
  have hx : l[i]? = some l[i] := List.getElem?_eq_getElem hi
  obtain ⟨c0, c1, c2⟩ := hc i _ hx
  obtain ⟨h1, h2, h3, h4, h5, h6⟩ := h.1 _ (List.getElem_mem hi)
  exact ⟨b, off, l[i], e, hb, getD_of hx, c0, c1, c2, h1, h2, h3, h4, h5, h6⟩
theorem Rd.keep (h : Rd w B k M A l) (hk : ∀ p : Addr, p.block < B → w'.cell? p = w.cell? p) : Rd w' B k M A l :=
  ⟨h.1, fun hn => by
    obtain ⟨b, off, e, hb, hc⟩ := h.2 hn
    exact ⟨b, off, e, hb, fun i x hx => by
      obtain ⟨c0, c1, c2⟩ := hc i x hx
      exact ⟨(hk _ hb).trans c0, (hk _ hb).trans c1, (hk _ hb).trans c2⟩⟩⟩
theorem Rd.more (h : Rd w B k M A l) (hB : B ≤ B') : Rd w B' k M A l :=
  ⟨h.1, fun hn => by
    obtain ⟨b, off, e, hb, hc⟩ := h.2 hn
    exact ⟨b, off, e, by omega, hc⟩⟩
theorem Rd.below (h : Rd w B k M A l) (hb : Below B w w') : Rd w' B k M A l := h.keep fun _ hp => hb.cell hp
theorem Rd.to (h : Rd w w.heap.size k M A l) (hb : Below w.heap.size w w') : Rd w' w'.heap.size k M A l := (h.below hb).more hb.size
theorem Rd.drew (h : Rd w B k M A l) : Rd w.drew B k M A l := h
theorem Rd.drewN (h : Rd w B k M A l) (n : Nat) : Rd (w.drewN n) B k M A l := h
theorem Rd.alloc (h : Rd w B k M A l) (hB : B ≤ w.heap.size) (o : Obj) : Rd (w.alloc o) B k M A l := h.keep fun p hp => World.cell?_alloc_lt w o p (by omega)
theorem Rd.setCell (h : Rd w B k M A l) {p : Addr} (hB : B ≤ p.block) (u : Value) : Rd (w.setCell p u) B k M A l :=
  h.keep fun q hq => World.cell?_setCell_other w p q u (fun e => by subst e; omega)
end
theorem below_drewN {B : Nat} {a w : World} (h : Below B a w) (n : Nat) : Below B a (w.drewN n) := ⟨h.os, h.tape, h.output, h.size, h.block⟩
theorem bcell {W w1 : World} (hb : Below W.heap.size W w1) : (∀ b o, b < W.heap.size → w1.cell? ⟨b, o, none⟩ = W.cell? ⟨b, o, none⟩) ∧ (∀ b o, b < W.heap.size → w1.frozen? ⟨b, o, none⟩ = W.frozen? ⟨b, o, none⟩) :=
  ⟨fun b o h => hb.cell (p := ⟨b, o, none⟩) h, fun b o h => hb.frozen (p := ⟨b, o, none⟩) h⟩
theorem ret_bool {a b : Bool} (h : a = b) : Ending.returned (.bool a) = .returned (.bool b) := by rw [h]
theorem ret_int {k : IntKind} {a b : Int} (h : a = b) : Ending.returned (.int k a) = .returned (.int k b) := by rw [h]

/-- The two slices of a table's value hold the table's ranges. -/
def TabR (w : World) (B : Nat) (A16 A32 : Option Addr) (T : Tab) : Prop := Rd w B .u16 65536 A16 T.a ∧ Rd w B .u32 4294967296 A32 T.b
theorem TabR.below {w w' : World} {B : Nat} {A16 A32 : Option Addr} {T : Tab} (h : TabR w B A16 A32 T) (hb : Below B w w') : TabR w' B A16 A32 T := ⟨h.1.below hb, h.2.below hb⟩
theorem TabR.more {w : World} {B B' : Nat} {A16 A32 : Option Addr} {T : Tab} (h : TabR w B A16 A32 T) (hb : B ≤ B') : TabR w B' A16 A32 T := ⟨h.1.more hb, h.2.more hb⟩
theorem TabR.to {w w' : World} {A16 A32 : Option Addr} {T : Tab} (h : TabR w w.heap.size A16 A32 T) (hb : Below w.heap.size w w') : TabR w' w'.heap.size A16 A32 T := (h.below hb).more hb.size
theorem TabR.alloc {w : World} {B : Nat} {A16 A32 : Option Addr} {T : Tab} (h : TabR w B A16 A32 T) (hB : B ≤ w.heap.size) (o : Obj) : TabR (w.alloc o) B A16 A32 T := ⟨h.1.alloc hB o, h.2.alloc hB o⟩
end Go.Proofs.Ytnhmacmpobkdoaa
