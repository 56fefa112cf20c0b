/-
  Steps of which one is parted: plain. Conditions: none.
-/
import Derived.Test.YthmijakellfbiaaDoorVisF
namespace Go.Proofs.YthmijakellfbiaaDoor
set_option linter.unusedVariables false

def lf (n : Nat) (e : St) : St := ⟨false, ⟨#[]⟩, e.names.take n, e.hides.take n⟩
def rt (n : Nat) (e : St) : St := ⟨false, ⟨#[]⟩, e.names.drop n, e.hides.drop n⟩
def piece (a n i : Nat) (e : St) : List St := if i = a ∧ e.is_ = false then [lf n e, rt n e] else [e]
def pieces (a n : Nat) : Nat → List St → List St
  | _, [] => []
  | i, e :: L => piece a n i e ++ pieces a n (i + 1) L
theorem pieces_snoc (a n : Nat) (e : St) : ∀ (L : List St) (i : Nat), pieces a n i (L ++ [e]) = pieces a n i L ++ piece a n (i + L.length) e
  | [], i => by simp [pieces]
  | x :: L, i => by
    simp only [List.cons_append, pieces, pieces_snoc a n e L (i + 1), List.length_cons, List.append_assoc]
    rw [show i + 1 + L.length = i + (L.length + 1) by omega]
theorem pieces_len (a n : Nat) : ∀ (L : List St) (i : Nat), (a < i → (pieces a n i L).length = L.length) ∧ (pieces a n i L).length ≤ L.length + 1
  | [], i => by simp [pieces]
  | e :: L, i => by
    obtain ⟨h1, h2⟩ := pieces_len a n L (i + 1)
    simp only [pieces, List.length_append, List.length_cons, piece]
    by_cases h : i = a ∧ e.is_ = false
    · rw [if_pos h]
      have := h1 (by omega)
      simp
      omega
    · rw [if_neg h]
      simp
      refine ⟨fun ha => ?_, by omega⟩
      have := h1 (by omega)
      omega
theorem pieces_all {Q : St → Prop} (a n : Nat) (hl : ∀ e, Q e → Q (lf n e)) (hr : ∀ e, Q e → Q (rt n e)) : ∀ (L : List St) (i : Nat), (∀ e ∈ L, Q e) → ∀ e ∈ pieces a n i L, Q e
  | [], i, _, e, h => by simp [pieces] at h
  | x :: L, i, hq, e, h => by
    simp only [pieces, List.mem_append, piece] at h
    rcases h with h | h
    · split at h
      · simp at h
        rcases h with rfl | rfl
        · exact hl x (hq x (by simp))
        · exact hr x (hq x (by simp))
      · simp at h
        subst h
        exact hq e (by simp)
    · exact pieces_all a n hl hr L (i + 1) (fun e he => hq e (by simp [he])) e h
theorem few_pieces {E : List St} (a n : Nat) (h : FewE E) (h11 : E.length ≤ 11) : FewE (pieces a n 0 E) := by
  refine ⟨by have := (pieces_len a n E 0).2; omega, fun k e he => ?_⟩
  refine pieces_all (Q := Okst) a n (fun e ⟨h1, h2, h3⟩ => ⟨by simp [lf, h1], by simp [lf]; omega, fun x hx => h3 x (List.mem_of_mem_take hx)⟩) (fun e ⟨h1, h2, h3⟩ => ⟨by simp [rt, h1], by simp [rt]; omega, fun x hx => h3 x (List.mem_of_mem_drop hx)⟩) E 0 (fun e he => ?_) e (List.mem_of_getElem? he)
  obtain ⟨j, hj, e1⟩ := List.mem_iff_getElem.1 he
  exact h.2 j e (by rw [← e1]; exact List.getElem?_eq_getElem hj)
theorem hm_split (n : Nat) (e : St) (hl : e.hides.length = e.names.length) (s : ByteArray) : hm (cv e) s = (hm (cv (rt n e)) s).or (hm (cv (lf n e)) s) := by
  have hz : (cv e).names.zip (cv e).hides = (cv (lf n e)).names.zip (cv (lf n e)).hides ++ (cv (rt n e)).names.zip (cv (rt n e)).hides := by
    show e.names.zip (e.hides.map hv) = (e.names.take n).zip ((e.hides.take n).map hv) ++ (e.names.drop n).zip ((e.hides.drop n).map hv)
    rw [← List.zip_append (by simp; omega), List.take_append_drop, ← List.map_append, List.take_append_drop]
  unfold hm
  rw [hz, look_append]
theorem hm_mem {e : St} {s : ByteArray} (h : (hm e s).isSome = true) : s ∈ e.names := by
  have := look_mem.1 h
  obtain ⟨p, hp, e1⟩ := List.mem_map.1 this
  rw [← e1]
  exact (List.of_mem_zip hp).1
theorem step_split (V : ByteArray → Option Int) (n : Nat) (e : St) (hi : e.is_ = false) (hl : e.hides.length = e.names.length) (hn : e.names.Nodup) : visStep (visStep V (cv (lf n e))) (cv (rt n e)) = visStep V (cv e) := by
  have h1 : visStep (visStep V (cv (lf n e))) (cv (rt n e)) = comb (comb V (hm (cv (lf n e)))) (hm (cv (rt n e))) := rfl
  have h2 : visStep V (cv e) = comb V (hm (cv e)) := by
    unfold visStep
    rw [show (cv e).is_ = false from hi]
    rfl
  rw [h1, h2]
  funext s
  have hs := hm_split n e hl s
  have hd : ∀ x, hm (cv (rt n e)) s = some x → hm (cv (lf n e)) s = none := fun x hx => by
    cases hL : hm (cv (lf n e)) s with
    | none => rfl
    | some y =>
      have a1 : s ∈ e.names.drop n := hm_mem (e := cv (rt n e)) (by rw [hx]; rfl)
      have a2 : s ∈ e.names.take n := hm_mem (e := cv (lf n e)) (by rw [hL]; rfl)
      have hn' : (e.names.take n ++ e.names.drop n).Nodup := by rw [List.take_append_drop]; exact hn
      rw [List.nodup_append] at hn'
      exact absurd rfl (hn'.2.2 s a2 s a1)
  unfold comb
  rw [hs]
  cases hR : hm (cv (rt n e)) s with
  | none => rfl
  | some x =>
    rw [hd x hR]
    rfl
theorem fold_pieces (a n : Nat) : ∀ (L : List St) (i : Nat) (V : ByteArray → Option Int), (∀ e ∈ L, e.hides.length = e.names.length ∧ e.names.Nodup) → ((pieces a n i L).map cv).foldl visStep V = (L.map cv).foldl visStep V
  | [], i, V, _ => rfl
  | e :: L, i, V, h => by
    obtain ⟨h1, h2⟩ := h e (by simp)
    simp only [pieces, List.map_append, List.foldl_append, List.map_cons, List.foldl_cons]
    rw [fold_pieces a n L (i + 1) _ fun e he => h e (by simp [he])]
    congr 1
    unfold piece
    by_cases hc : i = a ∧ e.is_ = false
    · rw [if_pos hc]
      exact step_split V n e hc.2 h1 h2
    · rw [if_neg hc]
      rfl
theorem vis_pieces (a n : Nat) {E : List St} (h : ∀ e ∈ E, e.hides.length = e.names.length ∧ e.names.Nodup) : visF ((pieces a n 0 E).map cv) = visF (E.map cv) := fold_pieces a n E 0 _ h
end Go.Proofs.YthmijakellfbiaaDoor
