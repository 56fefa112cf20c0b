/-
  A world that is as it was but in some blocks. Conditions: none.
-/
import Derived.Test.YtionkdlcagikaaaMem
namespace Go.Proofs.Ytionkdlcagikaaa
open Go.RowKit
set_option linter.unusedVariables false

/-- w' is w, but for new blocks and for writes to the blocks of P. -/
structure But (P : Nat → Prop) (w w' : World) : Prop where
  os : w'.os = w.os
  tape : w'.tape = w.tape
  output : w'.output = w.output
  size : w.heap.size ≤ w'.heap.size
  block : ∀ k, k < w.heap.size → ¬ P k → w'.heap[k]? = w.heap[k]?

section
variable {P Q : Nat → Prop} {a b c w w' : World}
theorem But.refl (P : Nat → Prop) (w : World) : But P w w := ⟨rfl, rfl, rfl, Nat.le_refl _, fun _ _ _ => rfl⟩
theorem But.trans (h : But P a b) (k : But P b c) : But P a c :=
  ⟨k.os.trans h.os, k.tape.trans h.tape, k.output.trans h.output, Nat.le_trans h.size k.size, fun i hi hP => (k.block i (Nat.lt_of_lt_of_le hi h.size) hP).trans (h.block i hi hP)⟩
theorem But.weaken (h : But P a b) (hPQ : ∀ k, k < a.heap.size → P k → Q k) : But Q a b := ⟨h.os, h.tape, h.output, h.size, fun i hi hQ => h.block i hi fun hP => hQ (hPQ i hi hP)⟩
theorem But.drew (h : But P a w) : But P a w.drew := ⟨h.os, h.tape, h.output, h.size, h.block⟩
theorem But.drewN (h : But P a w) (n : Nat) : But P a (w.drewN n) := ⟨h.os, h.tape, h.output, h.size, h.block⟩
theorem But.alloc (h : But P a w) (o : Obj) : But P a (w.alloc o) :=
  ⟨h.os, h.tape, h.output, Nat.le_trans h.size (by simp), fun i hi hP => (Below.heap_alloc w o i (Nat.lt_of_lt_of_le hi h.size)).trans (h.block i hi hP)⟩
theorem But.setCell (h : But P a w) {p : Addr} (hp : P p.block ∨ a.heap.size ≤ p.block) (u : Value) : But P a (w.setCell p u) :=
  ⟨h.os, h.tape, h.output, by simpa [World.setCell] using h.size, fun i hi hP => (Below.heap_setCell w p u i (by
    rintro rfl
    rcases hp with hp | hp
    · exact hP hp
    · omega)).trans (h.block i hi hP)⟩
theorem But.grown {row : Option Nat} (h : But P a w) (hg : w.grownBy w' row) (hr : ∀ k, row = some k → P k ∨ a.heap.size ≤ k) : But P a w' :=
  ⟨hg.os.trans h.os, hg.tape.trans h.tape, hg.output.trans h.output, Nat.le_trans h.size hg.size, fun i hi hP => (hg.block i (Nat.lt_of_lt_of_le hi h.size) (fun e => by
    rcases hr i e.symm with hp | hp
    · exact hP hp
    · omega)).trans (h.block i hi hP)⟩
theorem But.then_below (h : But P a w) {B : Nat} (hb : Below B w w') (hB : a.heap.size ≤ B) : But P a w' :=
  ⟨hb.os.trans h.os, hb.tape.trans h.tape, hb.output.trans h.output, Nat.le_trans h.size hb.size, fun i hi hP => (hb.block i (by omega)).trans (h.block i hi hP)⟩
theorem But.of_below {B : Nat} (hb : Below B a w) (hB : a.heap.size ≤ B) (P : Nat → Prop) : But P a w := (But.refl P a).then_below hb hB
theorem Below.then_but {B : Nat} (h : Below B a w) (k : But P w w') (hP : ∀ i, i < B → ¬ P i) (hB : B ≤ w.heap.size) : Below B a w' :=
  ⟨k.os.trans h.os, k.tape.trans h.tape, k.output.trans h.output, Nat.le_trans h.size k.size, fun i hi => (k.block i (by omega) (hP i hi)).trans (h.block i hi)⟩
theorem But.cell (h : But P w w') {p : Addr} (hl : p.block < w.heap.size) (hP : ¬ P p.block) : w'.cell? p = w.cell? p := World.cell?_of_block (h.block _ hl hP)
theorem But.frozen (h : But P w w') {p : Addr} (hl : p.block < w.heap.size) (hP : ¬ P p.block) : w'.frozen? p = w.frozen? p := World.frozen?_of_block (h.block _ hl hP)
theorem ownsRow_at {base n size : Nat} {t : TypeId} {v : Value} {xs : List Value} (h : w.ownsRow base t size v n xs) (hk : ∀ g, v.ownBlock = some g → w'.heap[g]? = w.heap[g]?) : w'.ownsRow base t size v n xs := by
  refine ⟨h.1, ?_⟩
  rcases h.2 with h | ⟨g, cap, cur, rfl, h1, h2, h3⟩
  · exact .inl h
  · exact .inr ⟨g, cap, cur, rfl, h1, (hk g rfl).trans h2, h3⟩
theorem ownsRow_but {base n size : Nat} {t : TypeId} {v : Value} {xs : List Value} (h : w.ownsRow base t size v n xs) (hb : But P w w') (hP : ∀ g, v.ownBlock = some g → ¬ P g) : w'.ownsRow base t size v n xs :=
  ownsRow_at h fun g hg => hb.block g (h.lt g hg).2 (hP g hg)
theorem ownsRow_set {base n size : Nat} {t : TypeId} {v u : Value} {xs : List Value} {p : Addr} (h : w.ownsRow base t size v n xs) (hp : v.ownBlock ≠ some p.block) : (w.setCell p u).ownsRow base t size v n xs :=
  ownsRow_at h fun g hg => Below.heap_setCell w p u g (by rintro rfl; exact hp hg)
end
end Go.Proofs.Ytionkdlcagikaaa
