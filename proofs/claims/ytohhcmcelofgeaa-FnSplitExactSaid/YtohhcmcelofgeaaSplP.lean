/-
  Plain facts on parts between separators: told by bytes, and by code points. No program in sight. Conditions: none.
-/
import Derived.Test.YtohhcmcelofgeaaTrimP
namespace Go.Proofs.Ytohhcmcelofgeaa
open Go
set_option linter.unusedVariables false

/-! ### letters begin where a first byte stands -/
def fst' (b : Nat) : Prop := b < 128 ∨ 192 ≤ b
theorem enc_form {x : Nat} (hx : Sc x) : ∃ b t, enc x = b :: t ∧ fst' b ∧ ∀ c ∈ t, ¬ fst' c := by
  unfold Sc at hx
  unfold fst'
  by_cases h1 : x < 128
  · exact ⟨x, [], enc_1 h1, by omega, by simp⟩
  by_cases h2 : x < 2048
  · refine ⟨_, _, enc_2 (by omega) h2, by omega, fun c hc => ?_⟩
    simp at hc
    omega
  by_cases h3 : x < 65536
  · refine ⟨_, _, enc_3 (by omega) h3, by omega, fun c hc => ?_⟩
    simp at hc
    omega
  · refine ⟨_, _, enc_4 (by omega), by omega, fun c hc => ?_⟩
    simp at hc
    omega
/-- Bytes as a text. -/
def ofB (l : List Nat) : ByteArray := ⟨(l.map UInt8.ofNat).toArray⟩
theorem enc_byte {x : Nat} (hx : Sc x) : ∀ c ∈ enc x, c < 256 := by
  unfold Sc at hx
  intro c hc
  by_cases h1 : x < 128
  · rw [enc_1 h1] at hc; simp at hc; omega
  by_cases h2 : x < 2048
  · rw [enc_2 (by omega) h2] at hc; simp at hc; omega
  by_cases h3 : x < 65536
  · rw [enc_3 (by omega) h3] at hc; simp at hc; omega
  · rw [enc_4 (by omega)] at hc; simp at hc; omega
theorem bl_ofB {l : List Nat} (h : ∀ c ∈ l, c < 256) : bl (ofB l) = l := by
  unfold bl ofB
  simp only [List.map_map]
  conv => rhs; rw [← List.map_id l]
  apply List.map_congr_left
  intro c hc
  have := h c hc
  simp
  omega
theorem encs_byte {l : List Nat} (h : ∀ x ∈ l, Sc x) : ∀ c ∈ l.flatMap enc, c < 256 := by
  intro c hc
  rw [List.mem_flatMap] at hc
  obtain ⟨x, hx, hc⟩ := hc
  exact enc_byte (h x hx) c hc
/-- The first letter is told by the bytes. -/
theorem enc_head {x y : Nat} {p q : List Nat} (hx : Sc x) (hy : Sc y) (hp : ∀ c ∈ p, c < 256) (h : enc x ++ p = enc y ++ q) : x = y ∧ p = q := by
  have hb : bl (ofB (enc x ++ p)) = enc x ++ p := bl_ofB fun c hc => by
    rw [List.mem_append] at hc
    rcases hc with hc | hc
    · exact enc_byte hx c hc
    · exact hp c hc
  have h1 := is_at (s := ofB (enc x ++ p)) (a := []) (x := x) (b := p) (by simpa using hb) hx
  have h2 := is_at (s := ofB (enc x ++ p)) (a := []) (x := y) (b := q) (by rw [hb, h]; simp) hy
  have e : x = y := h1.2.1.symm.trans h2.2.1
  subst e
  exact ⟨rfl, List.append_cancel_left h⟩
theorem encs_prefix : ∀ {u m : List Nat} {r : List Nat}, (∀ x ∈ u, Sc x) → (∀ x ∈ m, Sc x) → m.flatMap enc = u.flatMap enc ++ r → ∃ b, m = u ++ b ∧ b.flatMap enc = r
  | [], m, r, _, _, h => ⟨m, rfl, by simpa using h⟩
  | x :: u, [], r, hu, _, h => by
    have := congrArg List.length h
    have := enc_pos x
    simp at *
    omega
  | x :: u, y :: m, r, hu, hm, h => by
    simp only [List.flatMap_cons, List.append_assoc] at h
    obtain ⟨e, h2⟩ := enc_head (hm y (by simp)) (hu x (by simp)) (encs_byte fun z hz => hm z (by simp [hz])) h
    subst e
    obtain ⟨b, e, hr⟩ := encs_prefix (fun z hz => hu z (by simp [hz])) (fun z hz => hm z (by simp [hz])) h2
    exact ⟨b, by rw [e]; rfl, hr⟩
/-- A first byte stands at a letter's beginning alone. -/
theorem encs_cut : ∀ {l P Q : List Nat} {b : Nat}, (∀ x ∈ l, Sc x) → fst' b → l.flatMap enc = P ++ b :: Q → ∃ p m, l = p ++ m ∧ p.flatMap enc = P ∧ m.flatMap enc = b :: Q
  | [], P, Q, b, _, _, h => by simp at h
  | x :: l, P, Q, b, hl, hb, h => by
    obtain ⟨c, t, e, hc, ht⟩ := enc_form (hl x (by simp))
    cases P with
    | nil => exact ⟨[], x :: l, rfl, rfl, h⟩
    | cons a P =>
      have h2 : t ++ l.flatMap enc = P ++ b :: Q := by
        rw [List.flatMap_cons, e] at h
        simp only [List.cons_append, List.cons.injEq] at h
        exact h.2
      have ha : a = c := by
        rw [List.flatMap_cons, e] at h
        simp only [List.cons_append, List.cons.injEq] at h
        exact h.1.symm
      have hlen : t.length ≤ P.length := by
        refine Classical.byContradiction fun hn => ?_
        have : (P ++ b :: Q)[P.length]? = some b := by simp
        rw [← h2, List.getElem?_append_left (by omega)] at this
        exact ht b (List.mem_of_getElem? this) hb
      have h3 : ∃ P', P = t ++ P' := by
        have := congrArg (List.take t.length) h2
        rw [List.take_left, List.take_append_of_le_length hlen] at this
        exact ⟨P.drop t.length, by conv => lhs; rw [← List.take_append_drop t.length P]; rw [← this]⟩
      obtain ⟨P', rfl⟩ := h3
      rw [List.append_assoc] at h2
      obtain ⟨p, m, e1, e2, e3⟩ := encs_cut (fun z hz => hl z (by simp [hz])) hb (List.append_cancel_left h2)
      exact ⟨x :: p, m, by rw [e1]; rfl, by rw [List.flatMap_cons, e2, e, ha]; rfl, e3⟩

/-! ### the first place -/
/-- u stands at place k of l. -/
def At (u l : List Nat) (k : Nat) : Prop := k + u.length ≤ l.length ∧ (l.drop k).take u.length = u
def AtB (u l : List Nat) (k : Nat) : Bool := decide (k + u.length ≤ l.length) && ((l.drop k).take u.length == u)
theorem atB_iff {u l : List Nat} {k : Nat} : AtB u l k = true ↔ At u l k := by unfold AtB At; simp
/-- The first of the first n places. -/
def firstOf (u l : List Nat) : Nat → Option Nat
  | 0 => none
  | n + 1 => match firstOf u l n with
    | some k => some k
    | none => if AtB u l n = true then some n else none
def first (u l : List Nat) : Option Nat := firstOf u l (l.length + 1)
theorem firstOf_none {u l : List Nat} : ∀ {n : Nat}, firstOf u l n = none ↔ ∀ k, k < n → ¬ At u l k
  | 0 => by simp [firstOf]
  | n + 1 => by
    rw [firstOf]
    cases h : firstOf u l n with
    | some k =>
      refine iff_of_false (by simp) fun hh => ?_
      have := (firstOf_none (u := u) (l := l) (n := n)).2 (fun j hj => hh j (by omega))
      rw [h] at this
      cases this
    | none =>
      have ih := firstOf_none.1 h
      simp only
      split
      · rename_i ha
        exact iff_of_false (by simp) fun hh => hh n (by omega) (atB_iff.1 ha)
      · rename_i ha
        refine iff_of_true rfl fun k hk => ?_
        by_cases e : k = n
        · subst e; exact fun hh => ha (atB_iff.2 hh)
        · exact ih k (by omega)
theorem firstOf_some {u l : List Nat} {k : Nat} (h1 : At u l k) (h2 : ∀ j, j < k → ¬ At u l j) : ∀ {n : Nat}, k < n → firstOf u l n = some k
  | 0, h => by omega
  | n + 1, h => by
    rw [firstOf]
    by_cases e : k = n
    · subst e
      rw [firstOf_none.2 h2]
      simp [atB_iff.2 h1]
    · rw [firstOf_some h1 h2 (show k < n by omega)]
theorem first_some {u l : List Nat} {k : Nat} (h1 : At u l k) (h2 : ∀ j, j < k → ¬ At u l j) : first u l = some k := firstOf_some h1 h2 (by have := h1.1; omega)
theorem first_none {u l : List Nat} (h : ∀ k, ¬ At u l k) : first u l = none := firstOf_none.2 fun k _ => h k
theorem at_iff {u l : List Nat} {k : Nat} : At u l k ↔ ∃ p b, l = p ++ (u ++ b) ∧ p.length = k := by
  constructor
  · intro ⟨h1, h2⟩
    refine ⟨l.take k, (l.drop k).drop u.length, ?_, by rw [List.length_take]; omega⟩
    conv => lhs; rw [← List.take_append_drop k l]
    congr 1
    conv => lhs; rw [← List.take_append_drop u.length (l.drop k), h2]
  · rintro ⟨p, b, rfl, rfl⟩
    refine ⟨by simp only [List.length_append]; omega, ?_⟩
    rw [List.drop_left, List.take_left]
/-- A place told by bytes is a place told by letters. -/
theorem at_bytes {u l : List Nat} (hu : ∀ x ∈ u, Sc x) (hl : ∀ x ∈ l, Sc x) (hne : u ≠ []) (i : Nat) : At (u.flatMap enc) (l.flatMap enc) i ↔ ∃ k, At u l k ∧ ((l.take k).flatMap enc).length = i := by
  constructor
  · intro h
    obtain ⟨P, R, e, hi⟩ := at_iff.1 h
    cases u with
    | nil => exact absurd rfl hne
    | cons x u =>
      obtain ⟨b, t, eb, hb, _⟩ := enc_form (hu x (by simp))
      have e2 : l.flatMap enc = P ++ b :: (t ++ u.flatMap enc ++ R) := by rw [e]; simp [eb]
      obtain ⟨p, m, el, ep, em⟩ := encs_cut hl hb e2
      have em2 : m.flatMap enc = (x :: u).flatMap enc ++ R := by rw [em]; simp [eb]
      obtain ⟨r, er, _⟩ := encs_prefix hu (fun z hz => hl z (by rw [el]; simp [hz])) em2
      refine ⟨p.length, at_iff.2 ⟨p, r, by rw [el, er], rfl⟩, ?_⟩
      rw [el, List.take_left, ep]
      exact hi
  · rintro ⟨k, h, rfl⟩
    obtain ⟨p, b, rfl, rfl⟩ := at_iff.1 h
    rw [List.take_left]
    exact at_iff.2 ⟨p.flatMap enc, b.flatMap enc, by simp, rfl⟩
theorem take_mono {l : List Nat} {j k : Nat} (h : j < k) (hk : k ≤ l.length) : ((l.take j).flatMap enc).length < ((l.take k).flatMap enc).length := by
  have e : l.take k = l.take j ++ (l.drop j).take (k - j) := by
    have := List.take_add (l := l) (i := j) (j := k - j)
    rwa [show j + (k - j) = k by omega] at this
  rw [e, List.flatMap_append, List.length_append]
  cases hd : (l.drop j).take (k - j) with
  | nil =>
    have := congrArg List.length hd
    simp at this
    omega
  | cons x r => have := enc_pos x; simp; omega
theorem first_bytes {u l : List Nat} (hu : ∀ x ∈ u, Sc x) (hl : ∀ x ∈ l, Sc x) (hne : u ≠ []) {i : Nat} (h1 : At (u.flatMap enc) (l.flatMap enc) i) (h2 : ∀ j, j < i → ¬ At (u.flatMap enc) (l.flatMap enc) j) :
    ∃ k, first u l = some k ∧ At u l k ∧ ((l.take k).flatMap enc).length = i := by
  obtain ⟨k, hk, rfl⟩ := (at_bytes hu hl hne i).1 h1
  refine ⟨k, first_some hk fun j hj hat => ?_, hk, rfl⟩
  exact h2 _ (take_mono hj (by have := hk.1; omega)) ((at_bytes hu hl hne _).2 ⟨j, hat, rfl⟩)
theorem none_bytes {u l : List Nat} (hu : ∀ x ∈ u, Sc x) (hl : ∀ x ∈ l, Sc x) (hne : u ≠ []) (h : ∀ j, ¬ At (u.flatMap enc) (l.flatMap enc) j) : first u l = none :=
  first_none fun k hk => h _ ((at_bytes hu hl hne _).2 ⟨k, hk, rfl⟩)

/-! ### parts -/
/-- The parts between separators, with so many at most; by at most so many steps. -/
def parts (u : List Nat) : Nat → List Nat → List (List Nat)
  | 0, l => [l]
  | m + 1, l => match first u l with
    | none => [l]
    | some k => l.take k :: parts u m (l.drop (k + u.length))
theorem parts_none {u l : List Nat} (h : first u l = none) : ∀ m, parts u m l = [l]
  | 0 => rfl
  | m + 1 => by rw [parts, h]
theorem parts_some {u l : List Nat} {k m : Nat} (h : first u l = some k) (hm : 0 < m) : parts u m l = l.take k :: parts u (m - 1) (l.drop (k + u.length)) := by
  obtain ⟨m, rfl⟩ : ∃ n, m = n + 1 := ⟨m - 1, by omega⟩
  rw [parts, h]
  rfl
end Go.Proofs.Ytohhcmcelofgeaa
