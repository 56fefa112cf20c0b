/-
  The text of fodder: the plain law. Conditions: none.
-/
import Derived.Test.YtdjnknkdnacbnaaDoorTxtD
import Derived.Test.YtdjnknkdnacbnaaDoorStyC
namespace Go.Proofs.YtdjnknkdnacbnaaDoor
open Go.RowKit
set_option linter.unusedVariables false
set_option linter.unusedSimpArgs false

structure St where
  out : List UInt8
  crowded : Bool
  margin : Nat
def first (e : El) : List UInt8 := match e.text[0]? with | some s => s.data.toList | none => []
def tailOf (e : El) (skip : Bool) : List UInt8 := if skip = true then [] else List.replicate e.blanks.toNat 10 ++ List.replicate e.indent.toNat 32
def stepOf (fin : Bool) (n k : Nat) (e : El) (st : St) : St :=
  if e.kind = 1 then ⟨st.out ++ (if st.crowded = true then [32] else []) ++ first e, true, st.margin⟩
  else if e.kind = 0 then ⟨st.out ++ (if e.text = [] then [] else [32, 32] ++ first e) ++ [10] ++ tailOf e (fin && decide (k + 1 = n)), false, e.indent.toNat⟩
  else ⟨st.out ++ para e.text st.margin e.text.length ++ tailOf e (fin && decide (k + 1 = n)), false, e.indent.toNat⟩
def run (E : List El) (fin c : Bool) : Nat → St
  | 0 => ⟨[], c, 0⟩
  | k + 1 => match E[k]? with | some e => stepOf fin E.length k e (run E fin c k) | none => run E fin c k
def textOf (E : List El) (c sep fin : Bool) : List UInt8 := (run E fin c E.length).out ++ (if (sep && (run E fin c E.length).crowded) = true then [32] else [])
theorem run_step {E : List El} {fin c : Bool} {k : Nat} {e : El} (h : E[k]? = some e) : run E fin c (k + 1) = stepOf fin E.length k e (run E fin c k) := by
  show (match E[k]? with | some e => _ | none => _) = _
  rw [h]

theorem lns_of {e : El} (h : OkEl e) (hf : ∀ s ∈ e.text, 0 < s.size) : Lns e.text := by
  obtain ⟨_, _, _, _, h5, h6, _⟩ := h
  exact ⟨h5, fun j s hs => ⟨h6 j s hs, hf s (List.mem_of_getElem? hs)⟩⟩
theorem first_le {e : El} (h : OkEl e) : (first e).length ≤ 200 := by
  obtain ⟨_, _, _, _, _, h6, _⟩ := h
  unfold first
  split
  · rename_i s hs
    have : s.data.toList.length = s.size := Lib.size_eq s ▸ rfl
    rw [this]; exact h6 0 s hs
  · simp
theorem tail_le {e : El} (h : OkEl e) (b : Bool) : (tailOf e b).length ≤ 2000 := by
  obtain ⟨h1, h2, h3, h4, _⟩ := h
  unfold tailOf
  split
  · simp
  · simp only [List.length_append, List.length_replicate]; omega
theorem step_le {fin : Bool} {n k : Nat} {e : El} {st : St} (h : OkEl e) (hf : ∀ s ∈ e.text, 0 < s.size) (hm : st.margin ≤ 1000) : (stepOf fin n k e st).out.length ≤ st.out.length + 30000 ∧ (stepOf fin n k e st).margin ≤ 1000 := by
  have h1 := first_le h
  have h2 := tail_le h (fin && decide (k + 1 = n))
  have h3 := para_le (lns_of h hf) hm e.text.length (Nat.le_refl _)
  have h5 : e.text.length ≤ 20 := (lns_of h hf).1
  have h4 : e.indent.toNat ≤ 1000 := by obtain ⟨_, _, _, h4, _⟩ := h; omega
  unfold stepOf
  split
  · refine ⟨?_, hm⟩
    simp only [List.length_append]
    split <;> simp <;> omega
  · split
    · refine ⟨?_, h4⟩
      simp only [List.length_append]
      split <;> simp <;> omega
    · refine ⟨?_, h4⟩
      simp only [List.length_append]
      omega
theorem run_le {E : List El} {fin c : Bool} (h : OkF E) (hf : FullE E) : ∀ k, k ≤ E.length → (run E fin c k).out.length ≤ 30000 * k ∧ (run E fin c k).margin ≤ 1000
  | 0, _ => by simp [run]
  | k + 1, hk => by
    have he : E[k]? = some E[k] := List.getElem?_eq_getElem (by omega)
    have ih := run_le (fin := fin) (c := c) h hf k (by omega)
    have := step_le (fin := fin) (n := E.length) (k := k) (h.2 k _ he) (fun s hs => hf k _ s he hs) ih.2
    rw [run_step he]
    omega
end Go.Proofs.YtdjnknkdnacbnaaDoor
