/-
  Steps of making an object: how they lie in memory. Conditions: none.
-/
import Derived.Test.YthmijakellfbiaaDoorMem
import Derived.Test.YthmijakellfbiaaDoorBlk
import Derived.WalkKit
import Derived.WalkSpells
import Derived.Lib.Hide
import Derived.Outline
namespace Go.Proofs.YthmijakellfbiaaDoor
open Go.RowKit
set_option linter.unusedVariables false

/-- A step. -/
structure St where
  is_ : Bool
  rem : ByteArray
  names : List ByteArray
  hides : List Int
def ints (l : List Int) : List Value := l.map (Value.int .i64)
theorem ints_length (l : List Int) : (ints l).length = l.length := by simp [ints]
theorem ints_at {l : List Int} {k : Nat} {n : Int} (h : l[k]? = some n) : (ints l)[k]? = some (.int .i64 n) := by simp [ints, h]
def Ints (w : World) (v : Value) (l : List Int) : Prop := ∃ (A : Option Addr) (c : Nat), v = .slice A l.length c ∧ l.length ≤ c ∧ Reads w w.heap.size 1 A l.length (ints l)
theorem Ints.below {w w' : World} {v : Value} {l : List Int} (h : Ints w v l) (hb : Below w.heap.size w w') : Ints w' v l := by
  obtain ⟨A, c, e, hc, hr⟩ := h
  exact ⟨A, c, e, hc, (hr.below hb).more hb.size⟩
theorem Reads.int_ {w : World} {B : Nat} {A : Option Addr} {l : List Int} (h : Reads w B 1 A l.length (ints l)) {k : Nat} (hk : k < l.length) :
    ∃ ad n, A = some ad ∧ ad.block < B ∧ l[k]? = some n ∧ w.cell? (ad.add k) = some (.int .i64 n) := by
  obtain ⟨ad, u, e, hb, hx, hc⟩ := h.at_ hk
  have hs : l[k]? = some l[k] := List.getElem?_eq_getElem hk
  rw [ints_at hs] at hx
  injection hx with hx
  subst hx
  exact ⟨ad, _, e, hb, hs, hc⟩
/-- The cells of a step of the thin package, and of the package. -/
def cellsS (e : St) (u v : Value) : List Value := [.bool e.is_, .string e.rem, u, v]
def cellsC (e : St) (u v : Value) : List Value := [.string e.rem, u, v, .bool e.is_]
/-- Steps lie there. -/
def Sts (pk : St → Value → Value → List Value) (w : World) (A : Option Addr) (E : List St) : Prop :=
  ∀ k e, E[k]? = some e → ∃ ad u v, A = some ad ∧ ad.block < w.heap.size ∧ Lines w u e.names ∧ Ints w v e.hides ∧ ∀ j x, (pk e u v)[j]? = some x → w.cell? ((ad.add (k * 4)).add j) = some x
theorem Sts.below {pk : St → Value → Value → List Value} {w w' : World} {A : Option Addr} {E : List St} (h : Sts pk w A E) (hb : Below w.heap.size w w') : Sts pk w' A E := by
  intro k e he
  obtain ⟨ad, u, v, e1, h1, h2, h3, h4⟩ := h k e he
  have := hb.size
  exact ⟨ad, u, v, e1, by omega, h2.below hb, h3.below hb, fun j v hj => cell_below (h4 j v hj) hb⟩
theorem Sts.nil (pk : St → Value → Value → List Value) (w : World) (A : Option Addr) : Sts pk w A [] := fun k e h => by simp at h

/-! ### rows of four cells -/
theorem flat4_len : ∀ {R : List (List Value)}, (∀ r ∈ R, r.length = 4) → R.flatten.length = R.length * 4
  | [], _ => rfl
  | r :: R, h => by
    have ih := flat4_len (R := R) fun r hr => h r (List.mem_cons_of_mem _ hr)
    have h1 := h r (List.mem_cons_self ..)
    simp only [List.flatten_cons, List.length_append, ih, h1, List.length_cons]
    omega
theorem flat4_at : ∀ {R : List (List Value)}, (∀ r ∈ R, r.length = 4) → ∀ {k j : Nat} {r : List Value} {v : Value}, R[k]? = some r → r[j]? = some v → R.flatten[k * 4 + j]? = some v
  | [], _, k, j, r, v, he, _ => by simp at he
  | r' :: R, h, 0, j, r, v, he, hv => by
    simp only [List.getElem?_cons_zero, Option.some.injEq] at he
    subst he
    have hj : j < r'.length := (List.getElem?_eq_some_iff.1 hv).1
    rw [List.flatten_cons, Nat.zero_mul, Nat.zero_add, List.getElem?_append_left hj]
    exact hv
  | r' :: R, h, k + 1, j, r, v, he, hv => by
    simp only [List.getElem?_cons_succ] at he
    have ih := flat4_at (fun r hr => h r (List.mem_cons_of_mem _ hr)) he hv
    have h1 := h r' (List.mem_cons_self ..)
    rw [List.flatten_cons, List.getElem?_append_right (by rw [h1]; omega), h1, show (k + 1) * 4 + j - 4 = k * 4 + j by omega]
    exact ih
theorem flat4_snoc (R : List (List Value)) (r : List Value) : (R ++ [r]).flatten = R.flatten ++ r := by simp
/-- What the cells of steps are. -/
def Kids (pk : St → Value → Value → List Value) (w : World) (R : List (List Value)) (E : List St) : Prop :=
  R.length = E.length ∧ ∀ (k : Nat) (e : St) (r : List Value), E[k]? = some e → R[k]? = some r → ∃ u v, r = pk e u v ∧ Lines w u e.names ∧ Ints w v e.hides
theorem Kids.four {pk : St → Value → Value → List Value} (h4 : ∀ e u v, (pk e u v).length = 4) {w : World} {R : List (List Value)} {E : List St} (h : Kids pk w R E) : ∀ r ∈ R, r.length = 4 := by
  intro r hr
  obtain ⟨k, hk, rfl⟩ := List.mem_iff_getElem.1 hr
  have hE : k < E.length := by have := h.1; omega
  obtain ⟨u, v, e, _, _⟩ := h.2 k _ _ (List.getElem?_eq_getElem hE) (List.getElem?_eq_getElem hk)
  rw [e, h4]
theorem Kids.nil (pk : St → Value → Value → List Value) (w : World) : Kids pk w [] [] := ⟨rfl, fun k e r h => by simp at h⟩
theorem Kids.below {pk : St → Value → Value → List Value} {w w' : World} {R : List (List Value)} {E : List St} (h : Kids pk w R E) (hb : Below w.heap.size w w') : Kids pk w' R E :=
  ⟨h.1, fun k e r he hr => by
    obtain ⟨u, v, e1, h1, h2⟩ := h.2 k e r he hr
    exact ⟨u, v, e1, h1.below hb, h2.below hb⟩⟩
theorem Kids.snoc {pk : St → Value → Value → List Value} {w : World} {R : List (List Value)} {E : List St} (h : Kids pk w R E) {e : St} {u v : Value} (hu : Lines w u e.names) (hv : Ints w v e.hides) : Kids pk w (R ++ [pk e u v]) (E ++ [e]) := by
  refine ⟨by simp [h.1], fun k e' r he hr => ?_⟩
  by_cases hk : k < E.length
  · have := h.1
    rw [List.getElem?_append_left hk] at he
    rw [List.getElem?_append_left (by omega)] at hr
    exact h.2 k e' r he hr
  · have h1 := h.1
    have hl : k = E.length := by
      have := (List.getElem?_eq_some_iff.1 he).1
      simp at this
      omega
    subst hl
    rw [← h1] at hr
    simp at he hr
    subst he hr
    exact ⟨u, v, rfl, hu, hv⟩
theorem cellsS_four (e : St) (u v : Value) : (cellsS e u v).length = 4 := rfl
theorem cellsC_four (e : St) (u v : Value) : (cellsC e u v).length = 4 := rfl
/-- A row of the call's own reads as steps. -/
theorem Kids.sts {pk : St → Value → Value → List Value} (h4 : ∀ e u v, (pk e u v).length = 4) {w : World} {base : Nat} {t : TypeId} {v : Value} {R : List (List Value)} {E : List St} (ho : w.ownsRow base t 4 v E.length R.flatten) (h : Kids pk w R E) :
    ∃ A c, v = .slice A E.length c ∧ E.length ≤ c ∧ Sts pk w A E := by
  rcases ho.2 with ⟨rfl, h0⟩ | ⟨g, cap, cur, rfl, _, _, hc, _⟩
  · have : E = [] := List.eq_nil_of_length_eq_zero h0
    subst this
    exact ⟨none, 0, rfl, Nat.zero_le _, Sts.nil pk w none⟩
  · refine ⟨_, _, rfl, hc, fun k e he => ?_⟩
    have hk : k < R.length := by have := (List.getElem?_eq_some_iff.1 he).1; have := h.1; omega
    have hr : R[k]? = some R[k] := List.getElem?_eq_getElem hk
    obtain ⟨u, v, e1, h1, h2⟩ := h.2 k e _ he hr
    refine ⟨_, u, v, rfl, (ho.lt g rfl).2, h1, h2, fun j x hx => ?_⟩
    have := ho.cells (g := g) rfl (k * 4 + j) x (flat4_at (h.four h4) hr (by rw [e1]; exact hx))
    rw [add_of_add]
    exact this
end Go.Proofs.YthmijakellfbiaaDoor
