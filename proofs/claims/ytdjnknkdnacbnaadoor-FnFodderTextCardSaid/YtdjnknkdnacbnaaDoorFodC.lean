/-
  Fodder: rows of comments of the call's own; lists of elements laid flat. Conditions: none.
-/
import Derived.Test.YtdjnknkdnacbnaaDoorFodB
namespace Go.Proofs.YtdjnknkdnacbnaaDoor
open Go.RowKit
set_option linter.unusedVariables false

/-- Rows of comments of the call's own, each behind the one before. -/
def Coms (w : World) (base : Nat) (us : List Value) (E : List El) : Prop :=
  us.length = E.length ∧ (∀ (k : Nat) (u : Value) (e : El), us[k]? = some u → E[k]? = some e → w.ownsRow base 9 1 u e.text.length (strs e.text)) ∧
  (∀ (j k : Nat) (u v : Value) (a b : Nat), j < k → us[j]? = some u → us[k]? = some v → u.ownBlock = some a → v.ownBlock = some b → a < b)
def flat (pk : El → Value → List Value) (E : List El) (us : List Value) : List Value := (List.zipWith pk E us).flatten

theorem Coms.nil (w : World) (base : Nat) : Coms w base [] [] := ⟨rfl, fun k u e h => by simp at h, fun j k u v a b h h1 => by simp at h1⟩
theorem Coms.kept {w w' : World} {base : Nat} {us : List Value} {E : List El} {row : Option Nat} (h : Coms w base us E) (hg : w.grownBy w' row)
    (hr : ∀ (k : Nat) (u : Value), us[k]? = some u → u.ownBlock = none ∨ u.ownBlock ≠ row) : Coms w' base us E :=
  ⟨h.1, fun k u e hu he => (h.2.1 k u e hu he).kept hg (hr k u hu), h.2.2⟩
theorem only_of_below {B : Nat} {a w : World} (h : Below B a w) (hB : a.heap.size ≤ B) (row : Option Nat) : a.grownBy w row := ⟨h.os, h.tape, h.output, h.size, fun i hi _ => h.block i (by omega)⟩
theorem Coms.below {w w' : World} {base : Nat} {us : List Value} {E : List El} (h : Coms w base us E) (hb : Below w.heap.size w w') : Coms w' base us E :=
  h.kept (row := none) (only_of_below hb (Nat.le_refl _) none) fun k u _ => by cases u.ownBlock <;> simp
theorem ownsRow_below {w w' : World} {base n size : Nat} {t : TypeId} {v : Value} {xs : List Value} (h : w.ownsRow base t size v n xs) (hb : Below w.heap.size w w') : w'.ownsRow base t size v n xs :=
  h.kept (row := none) (only_of_below hb (Nat.le_refl _) none) (by cases v.ownBlock <;> simp)
theorem Coms.lt {w : World} {base : Nat} {us : List Value} {E : List El} (h : Coms w base us E) {k : Nat} {u : Value} (hu : us[k]? = some u) {a : Nat} (ha : u.ownBlock = some a) : base ≤ a ∧ a < w.heap.size := by
  have hk : k < E.length := by have := (List.getElem?_eq_some_iff.1 hu).1; have := h.1; omega
  exact (h.2.1 k u _ hu (List.getElem?_eq_getElem hk)).lt a ha
theorem Coms.snoc {w : World} {base : Nat} {us : List Value} {E : List El} {u : Value} {e : El} (h : Coms w base us E) (hu : w.ownsRow base 9 1 u e.text.length (strs e.text))
    (hlt : ∀ (k : Nat) (v : Value) (a b : Nat), us[k]? = some v → v.ownBlock = some a → u.ownBlock = some b → a < b) : Coms w base (us ++ [u]) (E ++ [e]) := by
  obtain ⟨hl, h1, h2⟩ := h
  have at_ : ∀ (k : Nat) (v : Value), (us ++ [u])[k]? = some v → us[k]? = some v ∨ (k = us.length ∧ v = u) := fun k v hv => by
    rcases Nat.lt_trichotomy k us.length with c | c | c
    · rw [List.getElem?_append_left c] at hv; exact .inl hv
    · subst c; simp at hv; exact .inr ⟨rfl, hv.symm⟩
    · rw [List.getElem?_eq_none (by simp; omega)] at hv; cases hv
  refine ⟨by simp [hl], fun k v e' hv he => ?_, fun j k v v' a b hjk hv hv' ha hb => ?_⟩
  · rcases at_ k v hv with c | ⟨rfl, rfl⟩
    · have hk : k < E.length := by have := (List.getElem?_eq_some_iff.1 c).1; omega
      rw [List.getElem?_append_left hk] at he
      exact h1 k v e' c he
    · rw [hl] at he
      simp at he
      subst he
      exact hu
  · rcases at_ k v' hv' with c | ⟨rfl, rfl⟩
    · rcases at_ j v hv with d | ⟨rfl, rfl⟩
      · exact h2 j k v v' a b hjk d c ha hb
      · have := (List.getElem?_eq_some_iff.1 c).1; omega
    · rcases at_ j v hv with d | ⟨rfl, rfl⟩
      · exact hlt j v a b d ha hb
      · omega

theorem flat_snoc (pk : El → Value → List Value) {E : List El} {us : List Value} (h : us.length = E.length) (e : El) (u : Value) : flat pk (E ++ [e]) (us ++ [u]) = flat pk E us ++ pk e u := by
  unfold flat
  rw [List.zipWith_append h.symm]
  simp
theorem flat_len {pk : El → Value → List Value} (h4 : ∀ e u, (pk e u).length = 4) : ∀ {E : List El} {us : List Value}, us.length = E.length → (flat pk E us).length = E.length * 4
  | [], [], _ => rfl
  | e :: E, u :: us, h => by
    have ih := flat_len h4 (E := E) (us := us) (by simpa using h)
    unfold flat at ih ⊢
    simp only [List.zipWith_cons_cons, List.flatten_cons, List.length_append, h4, ih, List.length_cons]
    omega
theorem flat_at {pk : El → Value → List Value} (h4 : ∀ e u, (pk e u).length = 4) : ∀ {E : List El} {us : List Value} {k : Nat} {e : El} {u : Value} {j : Nat} {v : Value}, us.length = E.length → E[k]? = some e → us[k]? = some u → (pk e u)[j]? = some v → (flat pk E us)[k * 4 + j]? = some v
  | [], _, k, e, u, j, v, _, he, _, _ => by simp at he
  | e' :: E, [], k, e, u, j, v, hl, _, _, _ => by simp at hl
  | e' :: E, u' :: us, 0, e, u, j, v, hl, he, hu, hv => by
    simp only [List.getElem?_cons_zero, Option.some.injEq] at he hu
    subst he; subst hu
    have hj : j < (pk e' u').length := (List.getElem?_eq_some_iff.1 hv).1
    show (pk e' u' ++ (List.zipWith pk E us).flatten)[0 * 4 + j]? = some v
    rw [Nat.zero_mul, Nat.zero_add, List.getElem?_append_left hj]
    exact hv
  | e' :: E, u' :: us, k + 1, e, u, j, v, hl, he, hu, hv => by
    simp only [List.getElem?_cons_succ] at he hu
    have ih := flat_at h4 (E := E) (us := us) (by simpa using hl) he hu hv
    show (pk e' u' ++ (List.zipWith pk E us).flatten)[(k + 1) * 4 + j]? = some v
    rw [List.getElem?_append_right (by rw [h4]; omega), h4, show (k + 1) * 4 + j - 4 = k * 4 + j by omega]
    exact ih
theorem cellsI_four (e : El) (u : Value) : (cellsI e u).length = 4 := rfl
theorem cellsA_four (e : El) (u : Value) : (cellsA e u).length = 4 := rfl

/-- A list of the call's own: rows of elements, and rows of comments. -/
def OwnF (t : TypeId) (pk : El → Value → List Value) (w : World) (base : Nat) (v : Value) (E : List El) : Prop :=
  ∃ us, w.ownsRow base t 4 v E.length (flat pk E us) ∧ Coms w base us E
theorem OwnF.below {t : TypeId} {pk : El → Value → List Value} {w w' : World} {base : Nat} {v : Value} {E : List El} (h : OwnF t pk w base v E) (hb : Below w.heap.size w w') : OwnF t pk w' base v E := by
  obtain ⟨us, h1, h2⟩ := h
  exact ⟨us, ownsRow_below h1 hb, h2.below hb⟩
theorem OwnF.nil (t : TypeId) (pk : El → Value → List Value) (w : World) (base : Nat) : OwnF t pk w base (.slice none 0 0) [] := ⟨[], World.ownsRow_nil _ _ _ _, Coms.nil _ _⟩

theorem blk_ne {w : World} {base base' : Nat} {t t' : TypeId} {size size' n n' : Nat} {v v' : Value} {xs xs' : List Value} (h : w.ownsRow base t size v n xs) (h' : w.ownsRow base' t' size' v' n' xs') (hne : t ≠ t') :
    v.ownBlock = none ∨ v.ownBlock ≠ v'.ownBlock := by
  rcases h.2 with ⟨rfl, _⟩ | ⟨g, cap, cur, rfl, _, hh, _⟩
  · exact .inl rfl
  rcases h'.2 with ⟨rfl, _⟩ | ⟨g', cap', cur', rfl, _, hh', _⟩
  · exact .inr (by simp [Value.ownBlock])
  · right
    intro he
    have : g = g' := by simpa [Value.ownBlock] using he
    subst this
    rw [hh] at hh'
    injection hh' with hh'
    injection hh' with _ ht
    exact hne ht

/-- A row that owns its cells reads as elements. -/
theorem Lines.of_own {w : World} {base : Nat} {t : TypeId} {v : Value} {ss : List ByteArray} (h : w.ownsRow base t 1 v ss.length (strs ss)) : Lines w v ss := by
  rcases h.2 with ⟨rfl, h0⟩ | ⟨g, cap, cur, rfl, _, _, hc, _⟩
  · refine ⟨none, 0, by rw [h0], by omega, ?_⟩
    have : ss = [] := List.eq_nil_of_length_eq_zero h0
    subst this
    exact Reads.none_
  · exact ⟨_, _, rfl, hc, Reads.of_own h⟩
theorem OwnF.els {t : TypeId} {pk : El → Value → List Value} (h4 : ∀ e u, (pk e u).length = 4) {w : World} {base : Nat} {v : Value} {E : List El} (h : OwnF t pk w base v E) :
    ∃ A c, v = .slice A E.length c ∧ E.length ≤ c ∧ Els pk w A E := by
  obtain ⟨us, h1, h2⟩ := h
  rcases h1.2 with ⟨rfl, h0⟩ | ⟨g, cap, cur, rfl, _, _, hc, _⟩
  · have : E = [] := List.eq_nil_of_length_eq_zero h0
    subst this
    exact ⟨none, 0, rfl, Nat.zero_le _, Els.nil pk w none⟩
  · refine ⟨_, _, rfl, hc, fun k e he => ?_⟩
    have hk : k < us.length := by have := (List.getElem?_eq_some_iff.1 he).1; have := h2.1; omega
    have hu : us[k]? = some us[k] := List.getElem?_eq_getElem hk
    refine ⟨_, us[k], rfl, ?_, Lines.of_own (h2.2.1 k _ e hu he), fun j x hx => ?_⟩
    · exact (h1.lt g rfl).2
    · have := h1.cells (g := g) rfl (k * 4 + j) x (flat_at h4 h2.1 he hu hx)
      rw [add_of_add]
      exact this
end Go.Proofs.YtdjnknkdnacbnaaDoor
