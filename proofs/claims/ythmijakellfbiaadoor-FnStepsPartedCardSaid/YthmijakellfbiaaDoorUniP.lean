/-
  Names bound to numbers, the last of a name's counting. Plain. Conditions: none.
-/
import Derived.Test.YthmijakellfbiaaDoorRng
namespace Go.Proofs.YthmijakellfbiaaDoor
set_option linter.unusedVariables false

/-- The last number that a list binds to a name. -/
noncomputable def look : List (ByteArray × Int) → ByteArray → Option Int
  | [], _ => none
  | (k, v) :: l, s => match look l s with
    | some x => some x
    | none => @ite _ (k = s) (Classical.propDecidable _) (some v) none
theorem look_append : ∀ (l m : List (ByteArray × Int)) (s : ByteArray), look (l ++ m) s = (look m s).or (look l s)
  | [], m, s => by simp [look]
  | (k, v) :: l, m, s => by
    show (match look (l ++ m) s with | some x => some x | none => @ite _ (k = s) (Classical.propDecidable _) (some v) none) = _
    rw [look_append l m s]
    show _ = (look m s).or (match look l s with | some x => some x | none => @ite _ (k = s) (Classical.propDecidable _) (some v) none)
    cases look m s <;> cases look l s <;> rfl
theorem look_one (k : ByteArray) (v : Int) (s : ByteArray) : look [(k, v)] s = @ite _ (k = s) (Classical.propDecidable _) (some v) none := rfl
theorem look_hit {k : ByteArray} {v : Int} {l : List (ByteArray × Int)} : look (l ++ [(k, v)]) k = some v := by
  rw [look_append, look_one, if_pos rfl]; rfl
theorem look_miss {k s : ByteArray} {v : Int} {l : List (ByteArray × Int)} (h : k ≠ s) : look (l ++ [(k, v)]) s = look l s := by
  rw [look_append, look_one, if_neg h]; rfl
theorem look_mem {s : ByteArray} : ∀ {l : List (ByteArray × Int)}, (look l s).isSome = true ↔ s ∈ l.map (·.1)
  | [] => by simp [look]
  | (k, v) :: l => by
    have ih := look_mem (s := s) (l := l)
    show (match look l s with | some x => some x | none => @ite _ (k = s) (Classical.propDecidable _) (some v) none).isSome = true ↔ _
    cases h : look l s with
    | some x =>
      rw [h] at ih
      simp only [Option.isSome_some, List.map_cons, List.mem_cons, true_iff]
      exact .inr (ih.1 rfl)
    | none =>
      rw [h] at ih
      have hn : s ∉ l.map (·.1) := fun hm => by have := ih.2 hm; cases this
      by_cases e : k = s
      · subst e
        simp
      · simp only [if_neg e, List.map_cons, List.mem_cons]
        constructor
        · intro hh; cases hh
        · rintro (e1 | hm)
          · exact absurd e1.symm e
          · exact absurd hm hn
/-- The numbers that a name is bound to are among the list's. -/
theorem look_in {s : ByteArray} {x : Int} : ∀ {l : List (ByteArray × Int)}, look l s = some x → (s, x) ∈ l
  | [], h => by cases h
  | (k, v) :: l, h => by
    have h' : (match look l s with | some x => some x | none => @ite _ (k = s) (Classical.propDecidable _) (some v) none) = some x := h
    cases hl : look l s with
    | some y =>
      rw [hl] at h'
      injection h' with h'
      subst h'
      exact List.mem_cons_of_mem _ (look_in hl)
    | none =>
      rw [hl] at h'
      by_cases e : k = s
      · simp only [if_pos e] at h'
        injection h' with h'
        subst e h'
        exact List.mem_cons_self ..
      · simp only [if_neg e] at h'
        cases h'
/-- Names with their places. -/
def prs : List ByteArray → Int → List (ByteArray × Int)
  | [], _ => []
  | s :: l, k => (s, k) :: prs l (k + 1)
theorem prs_append : ∀ (l m : List ByteArray) (k : Int), prs (l ++ m) k = prs l k ++ prs m (k + l.length)
  | [], m, k => by simp [prs]
  | s :: l, m, k => by
    simp only [List.cons_append, prs, prs_append l m, List.length_cons]
    congr 3
    omega
theorem prs_names : ∀ (l : List ByteArray) (k : Int), (prs l k).map (·.1) = l
  | [], _ => rfl
  | s :: l, k => by simp [prs, prs_names l]
theorem prs_at {s : ByteArray} {x : Int} : ∀ {l : List ByteArray} {k : Int}, (s, x) ∈ prs l k → ∃ j : Nat, l[j]? = some s ∧ x = k + j
  | [], k, h => by simp [prs] at h
  | t :: l, k, h => by
    rcases List.mem_cons.1 h with e | h'
    · injection e with e1 e2
      exact ⟨0, by simp [e1], by simp [e2]⟩
    · obtain ⟨j, h1, h2⟩ := prs_at h'
      exact ⟨j + 1, by simpa using h1, by rw [h2]; omega⟩
end Go.Proofs.YthmijakellfbiaaDoor
