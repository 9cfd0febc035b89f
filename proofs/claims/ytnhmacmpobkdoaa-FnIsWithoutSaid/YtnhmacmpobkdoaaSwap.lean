/- A made table one of whose lists is laid anew; parts of a list of ranges in memory. -/
import Derived.Test.YtnhmacmpobkdoaaFill
namespace Go.Proofs.Ytnhmacmpobkdoaa
open Go.RowKit
set_option linter.unusedVariables false
theorem ap_bel {w2 W w5 : World} {e : TypeId} {size n : Nat} {v : Value} {xs : List Value} (hb : Below w2.heap.size w2 W) (ho : W.ownsRow w2.heap.size e size v n xs) (hg : W.grownBy w5 v.ownBlock) : Below w2.heap.size w2 w5 := hb.grown hg hb.size (own_ge ho)
theorem Rd.take {w : World} {B : Nat} {k : IntKind} {M : Int} {A : Option Addr} {l : List Rg} (h : Rd w B k M A l) (i : Nat) : Rd w B k M A (l.take i) := by
  refine ⟨h.1.take i, fun hl => ?_⟩
  have hl' : 0 < l.length := by rw [List.length_take] at hl; omega
  obtain ⟨b, off, e, hb, hc⟩ := h.2 hl'
  refine ⟨b, off, e, hb, fun j x hx => hc j x ?_⟩
  have hj := (List.getElem?_eq_some_iff.1 hx).1
  rw [List.length_take] at hj
  rw [List.getElem?_take_of_lt (by omega)] at hx
  exact hx
theorem Rd.drop {w : World} {B b off : Nat} {k : IntKind} {M : Int} {l : List Rg} (h : Rd w B k M (some ⟨b, off, none⟩) l) (i : Nat) : Rd w B k M (some ⟨b, off + i * 3, none⟩) (l.drop i) := by
  refine ⟨fun x hx => h.1 x (List.mem_of_mem_drop hx), fun hl => ?_⟩
  have hl' : 0 < l.length := by rw [List.length_drop] at hl; omega
  obtain ⟨b', off', e, hb, hc⟩ := h.2 hl'
  injection e with e
  injection e with e1 e2
  subst e1 e2
  refine ⟨b, off + i * 3, rfl, hb, fun j x hx => ?_⟩
  rw [List.getElem?_drop] at hx
  have := hc (i + j) x hx
  rw [show off + (i + j) * 3 = off + i * 3 + j * 3 from by omega] at this
  exact this
section
variable {w wc w2 : World} {T Z X : Nat} {bt bz : Array Value} {A A' A3 : Option Addr} {c c' L cap : Nat} {l m l3 : List Rg}
theorem Mk.swap16 (h : Mk w T Z X bt bz A c l A' c' m wc) (hb : Below wc.heap.size wc w2) (hown : w2.ownsRow wc.heap.size 39 3 (.slice A3 L cap) L (cellsL .u16 l3)) (hL : l3.length = L) (hw : Wf 65536 l3) :
    Mk w T Z X bt bz A3 cap l3 A' c' m (w2.setCell ⟨X, 0, none⟩ (.slice A3 L cap)) := by
  subst hL
  have hX := h.bkX.below hb h.bkX.lt
  have hs := (Only.refl X w2).store 0 (.slice A3 l3.length cap)
  exact ⟨⟨(h.bkT.below hb h.bkT.lt).far (p := ⟨X, 0, none⟩) h.1.2.2.1 _, (h.bkZ.below hb h.bkZ.lt).far (p := ⟨X, 0, none⟩) h.1.2.2.2.1 _, h.1.2.2⟩, hX.set_ 0 _, own_mono (own_only hown hX (by decide) hs) h.bel.size, own_only (own_below h.own32 hb) hX (by decide) hs, hw, h.2.2.2.2.2.1, (h.bel.trans (hb.mono h.bel.size)).setCell h.1.2.2.2.2.2 _⟩
theorem Mk.swap32 (h : Mk w T Z X bt bz A c l A' c' m wc) (hb : Below wc.heap.size wc w2) (hown : w2.ownsRow wc.heap.size 65 3 (.slice A3 L cap) L (cellsL .u32 l3)) (hL : l3.length = L) (hw : Wf 4294967296 l3) :
    Mk w T Z X bt bz A c l A3 cap l3 (w2.setCell ⟨X, 1, none⟩ (.slice A3 L cap)) := by
  subst hL
  have hX := h.bkX.below hb h.bkX.lt
  have hs := (Only.refl X w2).store 1 (.slice A3 l3.length cap)
  exact ⟨⟨(h.bkT.below hb h.bkT.lt).far (p := ⟨X, 1, none⟩) h.1.2.2.1 _, (h.bkZ.below hb h.bkZ.lt).far (p := ⟨X, 1, none⟩) h.1.2.2.2.1 _, h.1.2.2⟩, hX.set_ 1 _, own_only (own_below h.own16 hb) hX (by decide) hs, own_mono (own_only hown hX (by decide) hs) h.bel.size, h.2.2.2.2.1, hw, (h.bel.trans (hb.mono h.bel.size)).setCell h.1.2.2.2.2.2 _⟩
end
theorem wf_parts {M : Int} {l : List Rg} (h : Wf M l) (k : Nat) : Wf M (l.take k ++ l.drop (k + 1)) := fun x hx => by
  rcases List.mem_append.1 hx with hx | hx
  · exact h x (List.mem_of_mem_take hx)
  · exact h x (List.mem_of_mem_drop hx)
theorem len_parts {l : List Rg} {k : Nat} (hk : k < l.length) : (l.take k).length = k ∧ (l.drop (k + 1)).length = l.length - (k + 1) := by
  rw [List.length_take, List.length_drop]; omega
end Go.Proofs.Ytnhmacmpobkdoaa
