/-
  Fodder opened out of an argument. Conditions: none.
-/
import Derived.Test.YtdjnknkdnacbnaaDoorOpen
namespace Go.Proofs.YtdjnknkdnacbnaaDoor
open Go.ChangeShapes Go.WideShapes Go.Deep Go.RowKit
set_option linter.unusedVariables false

theorem els_arg {H : Type} {enc : TypeId × Value → H} {W : World} {a : Option Addr} {n c : Nat} {d : DataW H} {p : List MemPlace} (h : DataW.Trod enc Tryd.prog W 0 (fun _ => true) true 22 (.slice a n c) d p) :
    ∃ E, E.length = n ∧ n ≤ c ∧ c ≤ maxLen ∧ Els cellsI W a E ∧ ∀ (k : Nat) (e : El), E[k]? = some e → e.text.length ≤ maxLen ∧ ∀ s ∈ e.text, s.size ≤ maxLen := by
  obtain ⟨fuel, hf⟩ := h
  rcases open_slice_fields Tryd.underlying22 Tryd.underlying30 (by kernel_rfl) (by kernel_rfl) hf with ⟨h0, _⟩ | ⟨ad, len, cap, m, D, Pl, h0, _, hl, hm, hmm, _, hi⟩
  · simp [Value.cells] at h0
    obtain ⟨rfl, rfl, rfl⟩ := h0
    exact ⟨[], rfl, Nat.le_refl _, Nat.zero_le _, Els.nil _ _ _, fun k e h => by simp at h⟩
  · simp [Value.cells] at h0
    obtain ⟨rfl, rfl, rfl⟩ := h0
    have hle : n ≤ m := by rw [hmm]; split <;> omega
    have each : ∀ k : Nat, ∃ e : El, k < n → (∃ u, ad.block < W.heap.size ∧ Lines W u e.text ∧ ∀ j v, (cellsI e u)[j]? = some v → W.cell? ((ad.add (k * 4)).add j) = some v) ∧ e.text.length ≤ maxLen ∧ ∀ s ∈ e.text, s.size ≤ maxLen := by
      intro k
      by_cases hk : k < n
      · obtain ⟨ys, n', _, _, _, hfld⟩ := hi k (by omega)
        obtain ⟨v0, y0, c0, _, t0⟩ := hfld 0 _ rfl
        obtain ⟨v1, y1, c1, _, t1⟩ := hfld 1 _ rfl
        obtain ⟨v2, y2, c2, _, t2⟩ := hfld 2 _ rfl
        obtain ⟨v3, y3, c3, _, t3⟩ := hfld 3 _ rfl
        obtain ⟨K, e0, _, _⟩ := DataW.trod_int Tryd.underlying3 t0
        obtain ⟨B, e1, _, _⟩ := DataW.trod_int Tryd.underlying3 t1
        obtain ⟨I, e2, _, _⟩ := DataW.trod_int Tryd.underlying3 t2
        obtain ⟨ss, hL, hsn, hsz⟩ := open_lines Tryd.underlying28 Tryd.underlying9 (by kernel_rfl) t3
        injection e0 with e0; subst e0
        injection e1 with e1; subst e1
        injection e2 with e2; subst e2
        refine ⟨⟨K, B, I, ss⟩, fun _ => ⟨⟨v3, ?_, hL, fun j v hj => ?_⟩, hsn, hsz⟩⟩
        · have := World.block_lt_of_cell? W _ c0
          rwa [block_of_add] at this
        · rw [add_of_add]
          match j, hj with
          | 0, hj => simp [cellsI] at hj; subst hj; exact c0
          | 1, hj => simp [cellsI] at hj; subst hj; exact c1
          | 2, hj => simp [cellsI] at hj; subst hj; exact c2
          | 3, hj => simp [cellsI] at hj; subst hj; exact c3
          | j + 4, hj => simp [cellsI] at hj
      · exact ⟨⟨0, 0, 0, []⟩, fun h => absurd h hk⟩
    have hat : ∀ (k : Nat) (e : El), ((List.range n).map fun k => (each k).choose)[k]? = some e → k < n ∧ e = (each k).choose := by
      intro k e he
      have hk : k < n := by have := (List.getElem?_eq_some_iff.1 he).1; simpa using this
      refine ⟨hk, ?_⟩
      rw [List.getElem?_map, List.getElem?_range hk] at he
      exact (Option.some.inj he).symm
    refine ⟨(List.range n).map fun k => (each k).choose, by simp, hl, hm, fun k e he => ?_, fun k e he => ?_⟩
    · obtain ⟨hk, rfl⟩ := hat k e he
      obtain ⟨⟨u, h1, h2, h3⟩, _⟩ := (each k).choose_spec hk
      exact ⟨ad, u, rfl, h1, h2, h3⟩
    · obtain ⟨hk, rfl⟩ := hat k e he
      exact ((each k).choose_spec hk).2
end Go.Proofs.YtdjnknkdnacbnaaDoor
