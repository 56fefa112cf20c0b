/-
  A block that is known whole. (The guide's block, given to copy, and more.) Conditions: none.
-/
import Derived.Test.YtionkdlcagikaaaBut
namespace Go.Proofs.Ytionkdlcagikaaa
open Go.RowKit
set_option linter.unusedVariables false

def Blk (w : World) (g : Nat) (t : TypeId) (cs : Array Value) : Prop := w.heap[g]? = some (.cells cs t (0, 0))

section
variable {w w' : World} {g : Nat} {t : TypeId} {cs : Array Value}
theorem Blk.lt (h : Blk w g t cs) : g < w.heap.size := by
  rcases Nat.lt_or_ge g w.heap.size with hlt | hge
  · exact hlt
  · unfold Blk at h; rw [Array.getElem?_eq_none hge] at h; cases h
theorem Blk.cell (h : Blk w g t cs) (i : Nat) : w.cell? ⟨g, i, none⟩ = cs[i]? := cell_of_row w g i cs t (0, 0) h
theorem Blk.frozen (h : Blk w g t cs) (i : Nat) : w.frozen? ⟨g, i, none⟩ = false := by
  unfold Blk at h
  simp [World.frozen?, h]
theorem Blk.new (w : World) (t : TypeId) (cs : Array Value) : Blk (w.alloc (.cells cs t)) w.heap.size t cs := heap_alloc_new w _
theorem Blk.drew (h : Blk w g t cs) : Blk w.drew g t cs := h
theorem Blk.drewN (h : Blk w g t cs) (n : Nat) : Blk (w.drewN n) g t cs := h
theorem Blk.alloc (h : Blk w g t cs) (o : Obj) : Blk (w.alloc o) g t cs := (Below.heap_alloc w o g h.lt).trans h
theorem Blk.set_ (h : Blk w g t cs) (i : Nat) (u : Value) : Blk (w.setCell ⟨g, i, none⟩ u) g t (cs.setIfInBounds i u) := by
  unfold Blk at h ⊢
  simp [World.setCell, Array.getElem?_modify, h]
theorem Blk.far (h : Blk w g t cs) {p : Addr} (hp : g ≠ p.block) (u : Value) : Blk (w.setCell p u) g t cs := (Below.heap_setCell w p u g hp).trans h
theorem Blk.below {B : Nat} (h : Blk w g t cs) (hb : Below B w w') (hg : g < B) : Blk w' g t cs := (hb.block g hg).trans h
theorem Blk.later (h : Blk w g t cs) (hb : Below w.heap.size w w') : Blk w' g t cs := h.below hb h.lt
theorem Blk.grown {row : Option Nat} (h : Blk w g t cs) (hb : w.grownBy w' row) (hg : some g ≠ row) : Blk w' g t cs := (hb.block g h.lt hg).trans h
theorem Blk.but {P : Nat → Prop} (h : Blk w g t cs) (hb : But P w w') (hg : ¬ P g) : Blk w' g t cs := (hb.block g h.lt hg).trans h
theorem Blk.ne_ {g' : Nat} {t' : TypeId} {cs' : Array Value} (h : Blk w g t cs) (h' : Blk w g' t' cs') (hne : t ≠ t') : g ≠ g' := by
  rintro rfl
  unfold Blk at h h'
  rw [h] at h'
  injection h' with h'
  injection h' with _ ht
  exact hne ht
theorem own_blk_ne {base : Nat} {e : TypeId} {size n : Nat} {v : Value} {xs : List Value} (h : w.ownsRow base e size v n xs) (hg : Blk w g t cs) (hne : e ≠ t) : v.ownBlock ≠ some g := by
  rcases h.2 with ⟨rfl, _⟩ | ⟨g', cap, cur, rfl, _, hh, _⟩
  · simp [Value.ownBlock]
  · intro he
    have : g' = g := by simpa [Value.ownBlock] using he
    subst this
    exact Blk.ne_ (t := e) hh hg hne rfl
theorem own_form {base n size : Nat} {v : Value} {xs : List Value} (h : w.ownsRow base t size v n xs) : ∃ A c, v = .slice A n c ∧ n ≤ c := by
  rcases h.2 with ⟨rfl, rfl⟩ | ⟨g, cap, cur, rfl, _, _, hc, _⟩
  · exact ⟨_, _, rfl, Nat.le_refl _⟩
  · exact ⟨_, _, rfl, hc⟩
theorem only_of_below {B : Nat} {a w : World} (h : Below B a w) (hB : a.heap.size ≤ B) (row : Option Nat) : a.grownBy w row := ⟨h.os, h.tape, h.output, h.size, fun i hi _ => h.block i (by omega)⟩
theorem ownsRow_below {w w' : World} {base n size : Nat} {t : TypeId} {v : Value} {xs : List Value} (h : w.ownsRow base t size v n xs) (hb : Below w.heap.size w w') : w'.ownsRow base t size v n xs :=
  h.kept (row := none) (only_of_below hb (Nat.le_refl _) none) (by cases v.ownBlock <;> simp)
theorem own_ne {w : World} {base base' : Nat} {t t' : TypeId} {size size' n n' : Nat} {v v' : Value} {xs xs' : List Value} (h : w.ownsRow base t size v n xs) (h' : w.ownsRow base' t' size' v' n' xs') (hne : t ≠ t') :
    v.ownBlock = none ∨ v.ownBlock ≠ v'.ownBlock := by
  rcases h.2 with ⟨rfl, _⟩ | ⟨g, cap, cur, rfl, _, hh, _⟩
  · exact .inl rfl
  rcases h'.2 with ⟨rfl, _⟩ | ⟨g', cap', cur', rfl, _, hh', _⟩
  · exact .inr (by simp [Value.ownBlock])
  · right
    intro he
    have : g = g' := by simpa [Value.ownBlock] using he
    subst this
    rw [hh] at hh'
    injection hh' with hh'
    injection hh' with _ ht
    exact hne ht
theorem news_at (w : World) (n : Nat) (cs : List Value) (t : TypeId) (hn : w.heap.size = n) : ∀ (j : Nat) (u : Value), cs[j]? = some u → (w.alloc (.cells cs.toArray t)).cell? ((⟨n, 0, none⟩ : Addr).add j) = some u := by
  subst hn
  intro j u h
  exact World.news_of_block (cs := cs.toArray) (t := t) (fr := (0, 0)) (heap_alloc_new w _) j u (by simpa using h)
theorem own_thru {wr W2 w1 : World} {base n size g : Nat} {t : TypeId} {v : Value} {xs : List Value} (ho : wr.ownsRow base t size v n xs) (hb : Below wr.heap.size wr W2) (hg : W2.grownBy w1 (some g)) (hgl : wr.heap.size ≤ g) : w1.ownsRow base t size v n xs :=
  (ownsRow_below ho hb).kept hg (by
    cases h : v.ownBlock with
    | none => exact .inl rfl
    | some a => right; have := (ho.lt a h).2; intro e; injection e; omega)
end
end Go.Proofs.Ytionkdlcagikaaa
