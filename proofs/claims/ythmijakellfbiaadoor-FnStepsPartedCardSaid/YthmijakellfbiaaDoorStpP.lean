/-
  Steps opened out of arguments. Conditions: none.
-/
import Derived.Test.YthmijakellfbiaaDoorStpA
import Derived.Test.YthmijakellfbiaaDoorStpH
import Derived.Test.YthmijakellfbiaaDoorOpen
import Derived.ChangeSlices
import Derived.Lib.SmallJoins
namespace Go.Proofs.YthmijakellfbiaaDoor
open Go.ChangeShapes Go.WideShapes Go.Deep Go.RowKit
set_option linter.unusedVariables false

section
variable {H : Type} {enc : TypeId × Value → H} {P : Program} {w : World} {spare : Nat → Bool} {held : Bool}
theorem open_intl {t e : TypeId} {fuel : Nat} {v : Value} {x : DataW H × List MemPlace} (ht : P.underlying t = some (.slice e)) (he : P.underlying e = some (.int .i64)) (hc : P.cellsOf e = 1)
    (h : DataW.trod enc P w 0 spare held fuel t [v] = some x) : ∃ l, Ints w v l ∧ l.length ≤ maxLen := by
  rcases open_ints ht he hc h with ⟨h0, _⟩ | ⟨a, len, cap, zs, h0, _, hl, hm, hs, _, hcell, _⟩
  · injection h0 with h0
    subst h0
    exact ⟨[], ⟨none, 0, rfl, Nat.le_refl _, Reads.none_⟩, Nat.zero_le _⟩
  · injection h0 with h0
    subst h0
    have hle : len ≤ zs.length := by rw [hs]; split <;> omega
    have hlen : (zs.take len).length = len := by rw [List.length_take]; omega
    have hat : ∀ (j : Nat) (u : Value), (ints (zs.take len))[j]? = some u → w.cell? (a.add j) = some u := by
      intro j u hu
      have hj : j < len := by have := (List.getElem?_eq_some_iff.1 hu).1; rw [ints_length] at this; omega
      have hjs : (zs.take len)[j]? = some (zs.getD j 0) := by
        rw [List.getElem?_take, if_pos hj, List.getD_eq_getElem?_getD, List.getElem?_eq_getElem (by omega)]
        rfl
      rw [ints_at hjs] at hu
      injection hu with hu
      subst hu
      exact hcell j (by omega)
    refine ⟨zs.take len, ⟨some a, cap, by rw [hlen], by omega, ⟨by rw [ints_length]; omega, fun hn => ⟨a, rfl, ?_, hat⟩⟩⟩, by omega⟩
    have h0 : w.cell? (a.add 0) = _ := hcell 0 (by omega)
    have := World.block_lt_of_cell? w _ h0
    rwa [block_of_add] at this
end
/-- What a step's fields are. -/
def StepIs (W : World) (x : St) (u v : Value) : Prop := Lines W u x.names ∧ Ints W v x.hides ∧ (x.rem.size ≤ maxLen ∧ ∀ s ∈ x.names, s.size ≤ maxLen) ∧ x.names.length ≤ maxLen
theorem step_of {H : Type} {enc : TypeId × Value → H} {W : World} {spare : Nat → Bool} {held : Bool} {n : Nat} {v0 v1 v2 v3 : Value} {y0 y1 y2 y3 : DataW H × List MemPlace}
    (t0 : DataW.trod enc Tryd.prog W 0 spare held n 4 [v0] = some y0) (t1 : DataW.trod enc Tryd.prog W 0 spare held n 9 [v1] = some y1) (t2 : DataW.trod enc Tryd.prog W 0 spare held n 23 [v2] = some y2) (t3 : DataW.trod enc Tryd.prog W 0 spare held n 24 [v3] = some y3) :
    ∃ x : St, v0 = .bool x.is_ ∧ v1 = .string x.rem ∧ StepIs W x v2 v3 := by
  obtain ⟨b, e0, _⟩ := DataW.trod_bool Tryd.underlying4 t0
  obtain ⟨r, e1, _, hr⟩ := DataW.trod_string Tryd.underlying9 t1
  obtain ⟨ss, hL, hsn, hsz⟩ := open_lines Tryd.underlying23 Tryd.underlying9 (by kernel_rfl) t2
  obtain ⟨l, hI, hil⟩ := open_intl Tryd.underlying24 Tryd.underlying3 (by kernel_rfl) t3
  injection e0 with e0
  injection e1 with e1
  exact ⟨⟨b, r, ss, l⟩, e0, e1, hL, hI, ⟨hr, hsz⟩, hsn⟩
set_option maxRecDepth 100000 in
theorem step_arg {H : Type} {enc : TypeId × Value → H} {W : World} {base : Nat} {v : Value} {d : DataW H} {p : List MemPlace} (hv : Value.okWide Tryd.prog W .any base 26 v) (h : DataW.Trod enc Tryd.prog W 0 (fun _ => true) true 26 v d p) :
    ∃ (x : St) (u u' : Value), v = .agg #[.bool x.is_, .string x.rem, u, u'] ∧ StepIs W x u u' := by
  obtain ⟨v0, v1, v2, v3, y0, y1, y2, y3, n, rfl, _, _, t0, t1, t2, t3⟩ := Joins.open_agg4 Tryd.underlying26 (by kernel_rfl) (by kernel_rfl) hv h
  obtain ⟨x, rfl, rfl, hx⟩ := step_of t0 t1 t2 t3
  exact ⟨x, v2, v3, rfl, hx⟩
set_option maxRecDepth 100000 in
theorem steps_arg {H : Type} {enc : TypeId × Value → H} {W : World} {a : Option Addr} {n c : Nat} {d : DataW H} {p : List MemPlace} (h : DataW.Trod enc Tryd.prog W 0 (fun _ => true) true 22 (.slice a n c) d p) :
    ∃ E : List St, E.length = n ∧ n ≤ c ∧ c ≤ maxLen ∧ Sts cellsS W a E ∧ Sizes E := by
  obtain ⟨fuel, hf⟩ := h
  rcases open_slice_fields Tryd.underlying22 Tryd.underlying26 (by kernel_rfl) (by kernel_rfl) hf with ⟨h0, _⟩ | ⟨ad, len, cap, m, D, Pl, h0, _, hl, hm, hmm, _, hi⟩
  · simp [Value.cells] at h0
    obtain ⟨rfl, rfl, rfl⟩ := h0
    exact ⟨[], rfl, Nat.le_refl _, Nat.zero_le _, Sts.nil _ _ _, fun k e h => by simp at h⟩
  · simp [Value.cells] at h0
    obtain ⟨rfl, rfl, rfl⟩ := h0
    have hle : n ≤ m := by rw [hmm]; split <;> omega
    have each : ∀ k : Nat, ∃ e : St, k < n → ∃ u v, ad.block < W.heap.size ∧ StepIs W e u v ∧ ∀ j x, (cellsS e u v)[j]? = some x → W.cell? ((ad.add (k * 4)).add j) = some x := by
      intro k
      by_cases hk : k < n
      · obtain ⟨ys, n', _, _, _, hfld⟩ := hi k (by omega)
        obtain ⟨v0, y0, c0, _, t0⟩ := hfld 0 _ rfl
        obtain ⟨v1, y1, c1, _, t1⟩ := hfld 1 _ rfl
        obtain ⟨v2, y2, c2, _, t2⟩ := hfld 2 _ rfl
        obtain ⟨v3, y3, c3, _, t3⟩ := hfld 3 _ rfl
        obtain ⟨e, rfl, rfl, hx⟩ := step_of t0 t1 t2 t3
        refine ⟨e, fun _ => ⟨v2, v3, ?_, hx, fun j v hj => ?_⟩⟩
        · have := World.block_lt_of_cell? W _ c0
          rwa [block_of_add] at this
        · rw [add_of_add]
          match j, hj with
          | 0, hj => simp [cellsS] at hj; subst hj; exact c0
          | 1, hj => simp [cellsS] at hj; subst hj; exact c1
          | 2, hj => simp [cellsS] at hj; subst hj; exact c2
          | 3, hj => simp [cellsS] at hj; subst hj; exact c3
          | j + 4, hj => simp [cellsS] at hj
      · exact ⟨⟨false, ⟨#[]⟩, [], []⟩, fun h => absurd h hk⟩
    have hat : ∀ (k : Nat) (e : St), ((List.range n).map fun k => (each k).choose)[k]? = some e → k < n ∧ e = (each k).choose := by
      intro k e he
      have hk : k < n := by have := (List.getElem?_eq_some_iff.1 he).1; simpa using this
      refine ⟨hk, ?_⟩
      rw [List.getElem?_map, List.getElem?_range hk] at he
      exact (Option.some.inj he).symm
    refine ⟨(List.range n).map fun k => (each k).choose, by simp, hl, hm, fun k e he => ?_, fun k e he => ?_⟩
    · obtain ⟨hk, rfl⟩ := hat k e he
      obtain ⟨u, v, h1, h2, h3⟩ := (each k).choose_spec hk
      exact ⟨ad, u, v, rfl, h1, h2.1, h2.2.1, h3⟩
    · obtain ⟨hk, rfl⟩ := hat k e he
      obtain ⟨u, v, h1, h2, h3⟩ := (each k).choose_spec hk
      exact h2.2.2.1
end Go.Proofs.YthmijakellfbiaaDoor
