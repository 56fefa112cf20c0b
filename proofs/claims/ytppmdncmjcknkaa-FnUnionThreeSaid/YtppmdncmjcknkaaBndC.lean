/-
  The plain law of arguments: which argument each param gets. Conditions: none.
-/
import Derived.Test.YtppmdncmjcknkaaBndB
namespace Go.Proofs.Ytppmdncmjcknkaa
set_option linter.unusedVariables false

def start (P : List ByteArray) (pos : Nat) : List Int := (List.range P.length).map fun i => if i < pos then (i : Int) else -1
def fillN (P : List ByteArray) (pos : Nat) : Nat → List ByteArray → List Int → Option (List Int)
  | _, [], out => some out
  | k, n :: N, out => match place P n with
    | none => none
    | some a => if 0 ≤ out.getD a (-1) then none else fillN P pos (k + 1) N (out.set a ((pos + k : Nat) : Int))
def given (P : List ByteArray) (pos : Nat) (N : List ByteArray) : Option (List Int) := if pos ≤ P.length then fillN P pos 0 N (start P pos) else none
def Stage (P : List ByteArray) (pos : Nat) (N : List ByteArray) (k : Nat) (out : List Int) : Prop := fillN P pos 0 (N.take k) (start P pos) = some out

theorem fillN_append (P : List ByteArray) (pos : Nat) : ∀ (N1 : List ByteArray) (k : Nat) (N2 : List ByteArray) (out : List Int), fillN P pos k (N1 ++ N2) out = (fillN P pos k N1 out).bind (fillN P pos (k + N1.length) N2)
  | [], k, N2, out => by simp [fillN]
  | n :: N1, k, N2, out => by
    simp only [List.cons_append, fillN, List.length_cons]
    cases place P n with
    | none => rfl
    | some a =>
      simp only
      split
      · rfl
      · rw [fillN_append P pos N1 (k + 1) N2]
        rw [show k + 1 + N1.length = k + (N1.length + 1) by omega]
theorem stage_zero (P : List ByteArray) (pos : Nat) (N : List ByteArray) : Stage P pos N 0 (start P pos) := by simp [Stage, fillN]
theorem take_snoc {N : List ByteArray} {k : Nat} {n : ByteArray} (h : N[k]? = some n) : N.take (k + 1) = N.take k ++ [n] := by
  have hk := (List.getElem?_eq_some_iff.1 h).1
  rw [List.take_succ_eq_append_getElem hk, (List.getElem?_eq_some_iff.1 h).2]
theorem split_at {N : List ByteArray} {k : Nat} {n : ByteArray} (h : N[k]? = some n) : N = N.take k ++ n :: N.drop (k + 1) := by
  have hk := (List.getElem?_eq_some_iff.1 h).1
  conv => lhs; rw [← List.take_append_drop k N]
  rw [List.drop_eq_getElem_cons hk, (List.getElem?_eq_some_iff.1 h).2]
theorem stage_len {P : List ByteArray} {pos : Nat} : ∀ {N : List ByteArray} {k : Nat} {out o : List Int}, fillN P pos k N out = some o → o.length = out.length
  | [], k, out, o, h => by simp [fillN] at h; rw [h]
  | n :: N, k, out, o, h => by
    simp only [fillN] at h
    cases hp : place P n with
    | none => rw [hp] at h; simp at h
    | some a =>
      rw [hp] at h
      simp only at h
      split at h
      · simp at h
      · rw [stage_len h, List.length_set]
theorem Stage.len {P : List ByteArray} {pos : Nat} {N : List ByteArray} {k : Nat} {out : List Int} (h : Stage P pos N k out) : out.length = P.length := by
  rw [stage_len h]; simp [start]
section
variable {P : List ByteArray} {pos : Nat} {N : List ByteArray} {k : Nat} {out : List Int} {n : ByteArray}
theorem Stage.next (h : Stage P pos N k out) (hn : N[k]? = some n) {a : Nat} (hp : place P n = some a) (ho : out.getD a (-1) < 0) : Stage P pos N (k + 1) (out.set a ((pos + k : Nat) : Int)) := by
  have hk := (List.getElem?_eq_some_iff.1 hn).1
  have hl : (N.take k).length = k := by rw [List.length_take]; omega
  unfold Stage
  rw [take_snoc hn, fillN_append, show fillN P pos 0 (N.take k) (start P pos) = some out from h, hl]
  simp only [Option.bind_some, fillN, hp]
  rw [if_neg (by omega), Nat.zero_add]
theorem Stage.no (h : Stage P pos N k out) (hn : N[k]? = some n) (hb : place P n = none ∨ ∃ a, place P n = some a ∧ 0 ≤ out.getD a (-1)) : given P pos N = none := by
  unfold given
  split
  · rw [split_at hn, fillN_append, show fillN P pos 0 (N.take k) (start P pos) = some out from h]
    simp only [Option.bind_some, fillN]
    rcases hb with hb | ⟨a, ha, hb⟩
    · rw [hb]
    · rw [ha]; simp only; rw [if_pos hb]
  · rfl
theorem Stage.full (h : Stage P pos N N.length out) (hp : pos ≤ P.length) : given P pos N = some out := by
  unfold given
  rw [if_pos hp]
  have : Stage P pos N N.length out := h
  unfold Stage at this
  rwa [List.take_length] at this
theorem Stage.uniq {out' : List Int} (h : Stage P pos N k out) (h' : Stage P pos N k out') : out = out' := by
  unfold Stage at h h'; rw [h] at h'; injection h'
theorem start_at {i : Nat} (hi : i < P.length) : (start P pos).getD i (-1) = if i < pos then (i : Int) else -1 := by
  simp [start, List.getD_eq_getElem?_getD, List.getElem?_map, List.getElem?_range hi]
theorem start_big {i : Nat} (hi : P.length ≤ i) : (start P pos).getD i (-1) = -1 := by
  rw [List.getD_eq_getElem?_getD, List.getElem?_eq_none (by simp [start]; omega)]; rfl
/-- All places hold numbers from -1 on. -/
theorem fillN_ge : ∀ {N : List ByteArray} {k : Nat} {out o : List Int}, fillN P pos k N out = some o → (∀ i, -1 ≤ out.getD i (-1)) → ∀ i, -1 ≤ o.getD i (-1)
  | [], k, out, o, h, hg, i => by simp [fillN] at h; rw [← h]; exact hg i
  | n :: N, k, out, o, h, hg, i => by
    simp only [fillN] at h
    cases hp : place P n with
    | none => rw [hp] at h; simp at h
    | some a =>
      rw [hp] at h
      simp only at h
      split at h
      · simp at h
      · refine fillN_ge h (fun j => ?_) i
        rw [List.getD_eq_getElem?_getD, List.getElem?_set]
        split
        · split
          · simp; omega
          · simp
        · rw [← List.getD_eq_getElem?_getD]; exact hg j
theorem Stage.ge (h : Stage P pos N k out) (i : Nat) : -1 ≤ out.getD i (-1) := by
  refine fillN_ge h (fun j => ?_) i
  by_cases hj : j < P.length
  · rw [start_at hj]; split <;> omega
  · rw [start_big (by omega)]; omega
end
theorem place_inj {P : List ByteArray} (hA : Apart P) {s : ByteArray} {i : Nat} (h : P[i]? = some s) : place P s = some i :=
  place_at h fun j hj hs => hA j i s hj hs h

/-- Which names have been received. -/
def Rec (P : List ByteArray) (out : List Int) (f : ByteArray → Bool) : Prop := ∀ s, f s = true ↔ ∃ i, P[i]? = some s ∧ 0 ≤ out.getD i (-1)
theorem Rec.at_ {P : List ByteArray} {out : List Int} {f : ByteArray → Bool} (h : Rec P out f) (hA : Apart P) {s : ByteArray} {a : Nat} (hp : place P s = some a) : f s = decide (0 ≤ out.getD a (-1)) := by
  rw [Bool.eq_iff_iff, h s, decide_eq_true_eq]
  constructor
  · rintro ⟨i, hi, ho⟩
    rw [place_inj hA hi] at hp
    injection hp with hp
    rwa [← hp]
  · intro ho
    exact ⟨a, place_some hp, ho⟩
theorem Rec.none_ {P : List ByteArray} {out : List Int} {f : ByteArray → Bool} (h : Rec P out f) {s : ByteArray} (hp : place P s = none) : f s = false := by
  rw [Bool.eq_false_iff]
  intro hf
  obtain ⟨i, hi, _⟩ := (h s).1 hf
  exact place_none hp i hi
theorem Rec.set_ {P : List ByteArray} {out : List Int} {f : ByteArray → Bool} (h : Rec P out f) (hA : Apart P) (hl : out.length = P.length) {s : ByteArray} {a : Nat} (hp : place P s = some a) {x : Int} (hx : 0 ≤ x) :
    Rec P (out.set a x) (fun t => if s = t then true else f t) := by
  have ha := place_some hp
  have hal : a < out.length := by have := (List.getElem?_eq_some_iff.1 ha).1; omega
  intro t
  show (if s = t then true else f t) = true ↔ _
  have hset : ∀ i, (out.set a x).getD i (-1) = if a = i then x else out.getD i (-1) := by
    intro i
    rw [List.getD_eq_getElem?_getD, List.getElem?_set, List.getD_eq_getElem?_getD]
    split
    · rename_i e
      subst e
      simp
    · rfl
  by_cases hst : s = t
  · subst hst
    rw [if_pos rfl]
    exact ⟨fun _ => ⟨a, ha, by rw [hset, if_pos rfl]; exact hx⟩, fun _ => rfl⟩
  · rw [if_neg hst, h t]
    constructor
    · rintro ⟨i, hi, ho⟩
      refine ⟨i, hi, ?_⟩
      rw [hset, if_neg (fun e => by subst e; rw [ha] at hi; injection hi with hi; exact hst hi)]
      exact ho
    · rintro ⟨i, hi, ho⟩
      refine ⟨i, hi, ?_⟩
      rwa [hset, if_neg (fun e => by subst e; rw [ha] at hi; injection hi with hi; exact hst hi)] at ho
end Go.Proofs.Ytppmdncmjcknkaa
