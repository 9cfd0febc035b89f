/- The reader of bytes that the generators use: how it lies in memory, and what keeps it. -/
import Derived.Test.YtnhmacmpobkdoaaBlk
import Derived.Test.YtnhmacmpobkdoaaPlainB
namespace Go.Proofs.Ytnhmacmpobkdoaa
open Go.RowKit
set_option linter.unusedVariables false

/-- Of what was there only block R may have turned. -/
def Only (R : Nat) (w w' : World) : Prop := w.grownBy w' (some R)
section
variable {R : Nat} {a b c w w' : World}
theorem Only.refl (R : Nat) (w : World) : Only R w w := ⟨rfl, rfl, rfl, Nat.le_refl _, fun _ _ _ => rfl⟩
theorem Only.trans (h : Only R a b) (k : Only R b c) : Only R a c :=
  ⟨k.os.trans h.os, k.tape.trans h.tape, k.output.trans h.output, Nat.le_trans h.size k.size, fun i hi hn => (k.block i (Nat.lt_of_lt_of_le hi h.size) hn).trans (h.block i hi hn)⟩
theorem Only.below (h : Below w.heap.size w w') : Only R w w' := ⟨h.os, h.tape, h.output, h.size, fun i hi _ => h.block i hi⟩
theorem Only.alloc (h : Only R a w) (o : Obj) : Only R a (w.alloc o) := h.trans (Only.below ((Below.refl _ _).alloc (Nat.le_refl _) o))
theorem Only.drew (h : Only R a w) : Only R a w.drew := ⟨h.os, h.tape, h.output, h.size, h.block⟩
theorem Only.drewN (h : Only R a w) (n : Nat) : Only R a (w.drewN n) := ⟨h.os, h.tape, h.output, h.size, h.block⟩
theorem Only.store (h : Only R a w) (i : Nat) (u : Value) : Only R a (w.setCell ⟨R, i, none⟩ u) :=
  h.trans ⟨rfl, rfl, rfl, by simp [World.setCell], fun k hk hn => Below.heap_setCell w _ u k (fun e => hn (by rw [e]))⟩
/-- A row of the call's own, of blocks that are new behind a, may be written too. -/
theorem Only.grown {row : Option Nat} (h : Only R a w) (hg : w.grownBy w' row) (hr : ∀ k, row = some k → a.heap.size ≤ k) : Only R a w' :=
  ⟨hg.os.trans h.os, hg.tape.trans h.tape, hg.output.trans h.output, Nat.le_trans h.size hg.size, fun i hi hn => (hg.block i (Nat.lt_of_lt_of_le hi h.size) (fun e => by have := hr i e.symm; omega)).trans (h.block i hi hn)⟩
/-- If R itself is new, nothing that was there has turned. -/
theorem Only.belowOf {B : Nat} (h : Only R w w') (hR : B ≤ R) (hB : B ≤ w.heap.size) : Below B w w' :=
  ⟨h.os, h.tape, h.output, h.size, fun i hi => h.block i (by omega) (fun e => by injection e; omega)⟩
end
theorem own_only {R : Nat} {w w' : World} {base : Nat} {e t : TypeId} {size n : Nat} {v : Value} {xs : List Value} {cs : Array Value} (h : w.ownsRow base e size v n xs) (hR : Bk w R t cs) (hne : e ≠ t) (ho : Only R w w') : w'.ownsRow base e size v n xs :=
  h.kept ho (.inr fun he => own_bk h hR hne he.symm)

/-- n bytes can be read at A; they lie below block B. -/
def RdB (w : World) (B : Nat) (A : Option Addr) (n : Nat) : Prop :=
  0 < n → ∃ b off, A = some ⟨b, off, none⟩ ∧ b < B ∧ ∀ i, i < n → ∃ x : Nat, x < 256 ∧ w.cell? ⟨b, off + i, none⟩ = some (.int .u8 (x : Int))
theorem RdB.keep {w w' : World} {B : Nat} {A : Option Addr} {n : Nat} (h : RdB w B A n) (hk : ∀ p : Addr, p.block < B → w'.cell? p = w.cell? p) : RdB w' B A n := fun hn => by
  obtain ⟨b, off, e, hb, hc⟩ := h hn
  refine ⟨b, off, e, hb, fun i hi => ?_⟩
  obtain ⟨x, hx, hcx⟩ := hc i hi
  exact ⟨x, hx, (hk _ hb).trans hcx⟩

/-- The reader at block R: its bytes, and how many numbers have been drawn. -/
def St (w : World) (R base : Nat) (A : Option Addr) (n c q : Nat) : Prop :=
  base ≤ R ∧ Bk w R 59 #[.slice A n c, .int .i64 (q : Int)] ∧ RdB w base A n ∧ n ≤ 1048576
section
variable {w w' : World} {R base : Nat} {A : Option Addr} {n c q : Nat}
theorem St.lt (h : St w R base A n c q) : R < w.heap.size := h.2.1.lt
theorem St.bk (h : St w R base A n c q) : Bk w R 59 #[.slice A n c, .int .i64 (q : Int)] := h.2.1
theorem St.below (h : St w R base A n c q) (hb : Below w.heap.size w w') : St w' R base A n c q :=
  ⟨h.1, h.2.1.below hb h.lt, h.2.2.1.keep fun p hp => hb.cell (by have := h.lt; have := h.1; omega), h.2.2.2⟩
theorem St.alloc (h : St w R base A n c q) (o : Obj) : St (w.alloc o) R base A n c q := h.below ((Below.refl _ _).alloc (Nat.le_refl _) o)
theorem St.drew (h : St w R base A n c q) : St w.drew R base A n c q := h
theorem St.drewN (h : St w R base A n c q) (k : Nat) : St (w.drewN k) R base A n c q := h
theorem St.grown {row : Option Nat} (h : St w R base A n c q) (hg : w.grownBy w' row) (hne : some R ≠ row) (hge : ∀ k, row = some k → base ≤ k) : St w' R base A n c q :=
  ⟨h.1, h.2.1.grown hg hne, h.2.2.1.keep fun p hp => World.cell?_of_block (hg.block p.block (by have := h.lt; have := h.1; omega) (fun e => by have := hge _ e.symm; omega)), h.2.2.2⟩
theorem St.setq (h : St w R base A n c q) (q' : Nat) : St (w.setCell ⟨R, 1, none⟩ (.int .i64 (q' : Int))) R base A n c q' :=
  ⟨h.1, h.2.1.set_ 1 _, h.2.2.1.keep fun p hp => World.cell?_setCell_other w _ p _ (fun e => by subst e; have := h.1; simp at hp; omega), h.2.2.2⟩
theorem St.c0 (h : St w R base A n c q) : w.cell? ⟨R, 0, none⟩ = some (.slice A n c) := by rw [h.2.1.cell]; rfl
theorem St.c1 (h : St w R base A n c q) : w.cell? ⟨R, 1, none⟩ = some (.int .i64 (q : Int)) := by rw [h.2.1.cell]; rfl
theorem St.f1 (h : St w R base A n c q) : w.frozen? ⟨R, 1, none⟩ = false := h.2.1.frozen 1
theorem St.byte (h : St w R base A n c q) (hn : 0 < n) : ∃ b off, A = some ⟨b, off, none⟩ ∧ b ≠ R ∧ ∀ i, i < n → ∃ x : Nat, x < 256 ∧ w.cell? ⟨b, off + i, none⟩ = some (.int .u8 (x : Int)) := by
  obtain ⟨b, off, e, hb, hc⟩ := h.2.2.1 hn
  exact ⟨b, off, e, by have := h.1; omega, hc⟩
end
end Go.Proofs.Ytnhmacmpobkdoaa
