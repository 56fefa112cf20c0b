/-
  Arguments opened: lists of texts, lists of elements of fodder. (The block on slices of structs is the guide's, given to copy.) Conditions: none.
-/
import Derived.Test.YthmijakellfbiaaDoorMem
import Derived.WalkKit
import Derived.Deep.Slices
import Derived.Deep.Fields
import Derived.ChangeSame
import Derived.SliceStrings
namespace Go.Proofs.YthmijakellfbiaaDoor
open Go.ChangeShapes Go.WideShapes Go.Deep Go.RowKit
set_option linter.unusedVariables false

section
variable {H : Type} {enc : TypeId × Value → H} {P : Program} {w : World} {base : Nat} {spare : Nat → Bool} {held : Bool}
theorem open_slice_fields {t e : TypeId} {fs : Array Field} {fuel : Nat} {cs : List Value} {x : DataW H × List MemPlace} (ht : P.underlying t = some (.slice e)) (he : P.underlying e = some (.struct fs))
    (hone : oneCellFields P fs = true) (hC : P.cellsOf e = fs.size) (h : DataW.trod enc P w base spare held fuel t cs = some x) :
    (cs = [.slice none 0 0] ∧ x = (.nil, [])) ∨
    ∃ (a : Addr) (len cap m : Nat) (D : Nat → DataW H) (Pl : Nat → List MemPlace), cs = [.slice (some a) len cap] ∧ base ≤ a.block ∧ len ≤ cap ∧ cap ≤ maxLen ∧ m = (if spare a.block then cap else len) ∧
      x = (.slice ((List.range len).map D) ((List.range (m - len)).map fun j => D (len + j)), MemPlace.row a (m * fs.size) ++ (List.range m).flatMap Pl) ∧
      ∀ i, i < m → ∃ (ys : List (DataW H × List MemPlace)) (n : Nat), D i = .agg (ys.map (·.1)) ∧ Pl i = ys.flatMap (·.2) ∧ ys.length = fs.size ∧
        ∀ (j : Nat) (f : Field), fs[j]? = some f → ∃ (v : Value) (y : DataW H × List MemPlace), w.cell? (a.add (i * fs.size + j)) = some v ∧ ys[j]? = some y ∧ DataW.trod enc P w base spare held n f.type [v] = some y := by
  rcases open_slice ht h with h0 | ⟨a, len, cap, m, n, D, Pl, hcs, hb, hl, hm, hmm, hx, hi⟩
  · exact .inl h0
  · refine .inr ⟨a, len, cap, m, D, Pl, hcs, hb, hl, hm, hmm, by rw [hC] at hx; exact hx, fun i him => ?_⟩
    obtain ⟨cs', hc, ht'⟩ := hi i him
    rw [hC] at hc
    obtain ⟨ys, n', hn', hy, hlen, hyl, hf⟩ := DataW.trod_struct he ht'
    obtain ⟨_, hcl, hat⟩ := World.cells?_some hc
    simp only [Prod.mk.injEq] at hy
    refine ⟨ys, n', hy.1, hy.2, hyl, fun j f hj => ?_⟩
    obtain ⟨ho, hk⟩ := hone_of hone j f hj
    have hjl : j < fs.size := (Array.getElem?_eq_some_iff.1 hj).1
    have hcell := hat j hjl
    have hv : cs'[j]? = some (cs'[j]'(by omega)) := List.getElem?_eq_getElem (by omega)
    have h1 := hf j f hj
    rw [ho, hk] at h1
    have hone' : (cs'.drop j).take 1 = [cs'[j]'(by omega)] := by
      rw [List.drop_eq_getElem_cons (by omega)]
      rfl
    rw [hone'] at h1
    have hys : ys[j]? = some (ys[j]'(by omega)) := List.getElem?_eq_getElem (by omega)
    refine ⟨_, _, ?_, hys, h1.trans hys⟩
    rw [← Go.Deep.add_add, hcell, hv]

theorem open_lines {t e : TypeId} {fuel : Nat} {v : Value} {x : DataW H × List MemPlace} (ht : P.underlying t = some (.slice e)) (he : P.underlying e = some .string) (hc : P.cellsOf e = 1)
    (h : DataW.trod enc P w 0 spare held fuel t [v] = some x) : ∃ ss, Lines w v ss ∧ ss.length ≤ maxLen ∧ ∀ s ∈ ss, s.size ≤ maxLen := by
  rcases open_strings ht he hc h with ⟨h0, _⟩ | ⟨a, len, cap, ss, h0, _, hl, hm, hs, _, hcell, hsz⟩
  · injection h0 with h0
    subst h0
    exact ⟨[], ⟨none, 0, rfl, Nat.le_refl _, Reads.none_⟩, Nat.zero_le _, fun s h => by simp at h⟩
  · injection h0 with h0
    subst h0
    have hle : len ≤ ss.length := by rw [hs]; split <;> omega
    have hlen : (ss.take len).length = len := by rw [List.length_take]; omega
    have hat : ∀ (j : Nat) (u : Value), (strs (ss.take len))[j]? = some u → w.cell? (a.add j) = some u := by
      intro j u hu
      have hj : j < len := by have := (List.getElem?_eq_some_iff.1 hu).1; rw [strs_length] at this; omega
      have hjs : (ss.take len)[j]? = some (ss.getD j ByteArray.empty) := by
        rw [List.getElem?_take, if_pos hj, List.getD_eq_getElem?_getD, List.getElem?_eq_getElem (by omega)]
        rfl
      rw [strs_at hjs] at hu
      injection hu with hu
      subst hu
      exact hcell j (by omega)
    refine ⟨ss.take len, ⟨some a, cap, by rw [hlen], by omega, ⟨by rw [strs_length]; omega, fun hn => ⟨a, rfl, ?_, hat⟩⟩⟩, by omega, fun s h => hsz s (List.mem_of_mem_take h)⟩
    have h0 : w.cell? (a.add 0) = _ := hcell 0 (by omega)
    have := World.block_lt_of_cell? w _ h0
    rwa [block_of_add] at this
end

theorem lines_arg {H : Type} {enc : TypeId × Value → H} {W : World} {v : Value} {d : DataW H} {p : List MemPlace} (h : DataW.Trod enc Tryd.prog W 0 (fun _ => true) true 23 v d p) (hv : ∃ a n c, v = .slice a n c) :
    ∃ ss, Lines W v ss ∧ ss.length ≤ maxLen ∧ ∀ s ∈ ss, s.size ≤ maxLen := by
  obtain ⟨fuel, hf⟩ := h
  obtain ⟨a, n, c, rfl⟩ := hv
  exact open_lines Tryd.underlying23 Tryd.underlying9 (by kernel_rfl) hf
end Go.Proofs.YthmijakellfbiaaDoor
