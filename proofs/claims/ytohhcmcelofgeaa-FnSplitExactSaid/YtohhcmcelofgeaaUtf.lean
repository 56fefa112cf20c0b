/-
  Plain facts on UTF-8: reading strictly, letter by letter, tells the same numbers as []rune, and the text back. No program in sight. Conditions: none.
-/
import Derived.Laws.IdiomStrings
import Derived.Lib.DecodeN
namespace Go.Proofs.Ytohhcmcelofgeaa
open Go

/-- The byte at a place; nought beyond the end. -/
def by' (s : ByteArray) (i : Nat) : Nat := (s.data.toList.getD i 0).toNat
theorem by_lt (s : ByteArray) (i : Nat) : by' s i < 256 := UInt8.toNat_lt _
theorem by_eq (s : ByteArray) (k : Nat) (h : k < s.size) : by' s k = s[k].toNat := by
  unfold by'
  have : s.data.toList.getD k 0 = s[k] := by
    rw [List.getD_eq_getElem?_getD, List.getElem?_eq_getElem (by simpa using h)]
    rfl
  rw [this]
theorem get_by (s : ByteArray) (k : Nat) : (s.get! k).toNat = by' s k := by
  unfold by'
  rw [List.getD_eq_getElem?_getD]
  by_cases h : k < s.size
  · have e : s.get! k = s[k] := by
      simp [ByteArray.get!, getElem!_pos, h]
      rfl
    rw [e, List.getElem?_eq_getElem (by simpa using h)]
    rfl
  · rw [List.getElem?_eq_none (by simpa using h)]
    obtain ⟨⟨l⟩⟩ := s
    simp only [ByteArray.get!]
    rw [getElem!_neg _ _ (by simpa [ByteArray.size] using h)]
    rfl

/-- How many bytes the letter at a place takes, read strictly; nought where none stands there. -/
def wide (s : ByteArray) (i : Nat) : Nat := if by' s i < 128 then 1 else if (Utf8.decode s i).2 = 1 then 0 else (Utf8.decode s i).2
def pnt (s : ByteArray) (i : Nat) : Nat := (Utf8.decode s i).1

/-- The bytes of a number. -/
def enc (r : Nat) : List Nat :=
  if r < 128 then [r] else if r < 2048 then [192 + r / 64, 128 + r % 64] else if r < 65536 then [224 + r / 4096, 128 + r / 64 % 64, 128 + r % 64]
  else [240 + r / 262144, 128 + r / 4096 % 64, 128 + r / 64 % 64, 128 + r % 64]

theorem decode_by (s : ByteArray) (i : Nat) : Utf8.decode s i = Lib.decodeN (s.size - i) (by' s i) (by' s (i + 1)) (by' s (i + 2)) (by' s (i + 3)) := by
  rw [Lib.decode_at, get_by, get_by, get_by, get_by]

/-! ### what stands at a place, by the first byte -/
theorem wide_ascii {s : ByteArray} {i : Nat} (h : by' s i < 128) : wide s i = 1 ∧ pnt s i = by' s i := by
  refine ⟨by simp [wide, h], ?_⟩
  unfold pnt
  rw [decode_by]
  simp [Lib.decodeN, h]
theorem wide_none {s : ByteArray} {i : Nat} (h1 : 128 ≤ by' s i) (h2 : by' s i < 192 ∨ 248 ≤ by' s i) : wide s i = 0 := by
  have hl := by_lt s i
  have e : Utf8.decode s i = (65533, 1) := by
    rw [decode_by]
    unfold Lib.decodeN
    rw [if_neg (by omega), if_neg (by omega), if_neg (by omega), if_neg (by omega)]
  unfold wide
  rw [if_neg (by omega), e]
  rfl
def Two (s : ByteArray) (i : Nat) : Prop := 1 < s.size - i ∧ (128 ≤ by' s (i + 1) ∧ by' s (i + 1) < 192)
def Three (s : ByteArray) (i : Nat) : Prop := 2 < s.size - i ∧ (128 ≤ by' s (i + 1) ∧ by' s (i + 1) < 192) ∧ (128 ≤ by' s (i + 2) ∧ by' s (i + 2) < 192)
def Four (s : ByteArray) (i : Nat) : Prop := 3 < s.size - i ∧ (128 ≤ by' s (i + 1) ∧ by' s (i + 1) < 192) ∧ (128 ≤ by' s (i + 2) ∧ by' s (i + 2) < 192) ∧ (128 ≤ by' s (i + 3) ∧ by' s (i + 3) < 192)
def val2 (s : ByteArray) (i : Nat) : Nat := (by' s i - 192) * 64 + (by' s (i + 1) - 128)
def val3 (s : ByteArray) (i : Nat) : Nat := ((by' s i - 224) * 64 + (by' s (i + 1) - 128)) * 64 + (by' s (i + 2) - 128)
def val4 (s : ByteArray) (i : Nat) : Nat := (((by' s i - 240) * 64 + (by' s (i + 1) - 128)) * 64 + (by' s (i + 2) - 128)) * 64 + (by' s (i + 3) - 128)

theorem wide_two {s : ByteArray} {i : Nat} (h1 : 192 ≤ by' s i) (h2 : by' s i < 224) (h : Two s i) (hv : 128 ≤ val2 s i) : wide s i = 2 ∧ pnt s i = val2 s i := by
  obtain ⟨a, b, c⟩ := h
  unfold val2 at *
  have e : Utf8.decode s i = ((by' s i - 192) * 64 + (by' s (i + 1) - 128), 2) := by
    rw [decode_by]
    unfold Lib.decodeN
    rw [if_neg (by omega), if_pos (by omega), if_pos (by omega)]
    apply Prod.ext <;> simp only
    omega
  unfold wide pnt
  rw [if_neg (by omega), e]
  exact ⟨rfl, rfl⟩
theorem wide_two_no {s : ByteArray} {i : Nat} (h1 : 192 ≤ by' s i) (h2 : by' s i < 224) (h : ¬ (Two s i ∧ 128 ≤ val2 s i)) : wide s i = 0 := by
  unfold Two val2 at *
  have e : Utf8.decode s i = (65533, 1) := by
    rw [decode_by]
    unfold Lib.decodeN
    rw [if_neg (by omega)]
    by_cases hc : by' s i / 32 = 6 ∧ (1 < s.size - i ∧ by' s (i + 1) / 64 = 2)
    · rw [if_pos hc, if_neg (by omega)]
    · rw [if_neg hc, if_neg (by omega), if_neg (by omega)]
  unfold wide
  rw [if_neg (by omega), e]
  rfl
theorem wide_three {s : ByteArray} {i : Nat} (h1 : 224 ≤ by' s i) (h2 : by' s i < 240) (h : Three s i) (hv : 2048 ≤ val3 s i) (hw : val3 s i < 55296 ∨ 57344 ≤ val3 s i) : wide s i = 3 ∧ pnt s i = val3 s i := by
  obtain ⟨a, ⟨b, c⟩, b', c'⟩ := h
  unfold val3 at *
  have e : Utf8.decode s i = (((by' s i - 224) * 64 + (by' s (i + 1) - 128)) * 64 + (by' s (i + 2) - 128), 3) := by
    rw [decode_by]
    unfold Lib.decodeN
    rw [if_neg (by omega), if_neg (by omega), if_pos (by omega), if_pos (by omega)]
    apply Prod.ext <;> simp only
    omega
  unfold wide pnt
  rw [if_neg (by omega), e]
  exact ⟨rfl, rfl⟩
theorem wide_three_no {s : ByteArray} {i : Nat} (h1 : 224 ≤ by' s i) (h2 : by' s i < 240) (h : ¬ (Three s i ∧ 2048 ≤ val3 s i ∧ (val3 s i < 55296 ∨ 57344 ≤ val3 s i))) : wide s i = 0 := by
  unfold Three val3 at *
  have e : Utf8.decode s i = (65533, 1) := by
    rw [decode_by]
    unfold Lib.decodeN
    rw [if_neg (by omega), if_neg (by omega)]
    by_cases hc : by' s i / 16 = 14 ∧ (1 < s.size - i ∧ by' s (i + 1) / 64 = 2) ∧ (2 < s.size - i ∧ by' s (i + 2) / 64 = 2)
    · rw [if_pos hc, if_neg (by omega)]
    · rw [if_neg hc, if_neg (by omega)]
  unfold wide
  rw [if_neg (by omega), e]
  rfl
theorem wide_four {s : ByteArray} {i : Nat} (h1 : 240 ≤ by' s i) (h2 : by' s i < 248) (h : Four s i) (hv : 65536 ≤ val4 s i) (hw : val4 s i ≤ 1114111) : wide s i = 4 ∧ pnt s i = val4 s i := by
  obtain ⟨a, ⟨b, c⟩, ⟨b', c'⟩, b'', c''⟩ := h
  unfold val4 at *
  have e : Utf8.decode s i = ((((by' s i - 240) * 64 + (by' s (i + 1) - 128)) * 64 + (by' s (i + 2) - 128)) * 64 + (by' s (i + 3) - 128), 4) := by
    rw [decode_by]
    unfold Lib.decodeN
    rw [if_neg (by omega), if_neg (by omega), if_neg (by omega), if_pos (by omega), if_pos (by omega)]
    apply Prod.ext <;> simp only
    omega
  unfold wide pnt
  rw [if_neg (by omega), e]
  exact ⟨rfl, rfl⟩
theorem wide_four_no {s : ByteArray} {i : Nat} (h1 : 240 ≤ by' s i) (h2 : by' s i < 248) (h : ¬ (Four s i ∧ 65536 ≤ val4 s i ∧ val4 s i ≤ 1114111)) : wide s i = 0 := by
  unfold Four val4 at *
  have e : Utf8.decode s i = (65533, 1) := by
    rw [decode_by]
    unfold Lib.decodeN
    rw [if_neg (by omega), if_neg (by omega), if_neg (by omega)]
    by_cases hc : by' s i / 8 = 30 ∧ (1 < s.size - i ∧ by' s (i + 1) / 64 = 2) ∧ (2 < s.size - i ∧ by' s (i + 2) / 64 = 2) ∧ (3 < s.size - i ∧ by' s (i + 3) / 64 = 2)
    · rw [if_pos hc, if_neg (by omega)]
    · rw [if_neg hc]
  unfold wide
  rw [if_neg (by omega), e]
  rfl

theorem wide_le (s : ByteArray) (i : Nat) : wide s i ≤ 4 := by
  have h := by_lt s i
  by_cases a : by' s i < 128
  · rw [(wide_ascii a).1]; omega
  by_cases b : by' s i < 192 ∨ 248 ≤ by' s i
  · rw [wide_none (by omega) b]; omega
  by_cases c : by' s i < 224
  · by_cases d : Two s i ∧ 128 ≤ val2 s i
    · rw [(wide_two (by omega) c d.1 d.2).1]; omega
    · rw [wide_two_no (by omega) c d]; omega
  by_cases e : by' s i < 240
  · by_cases d : Three s i ∧ 2048 ≤ val3 s i ∧ (val3 s i < 55296 ∨ 57344 ≤ val3 s i)
    · rw [(wide_three (by omega) e d.1 d.2.1 d.2.2).1]; omega
    · rw [wide_three_no (by omega) e d]; omega
  · by_cases d : Four s i ∧ 65536 ≤ val4 s i ∧ val4 s i ≤ 1114111
    · rw [(wide_four (by omega) (by omega) d.1 d.2.1 d.2.2).1]; omega
    · rw [wide_four_no (by omega) (by omega) d]; omega

/-- What a letter that is there is: its number, how many bytes, and which. -/
theorem letter_there {s : ByteArray} {i : Nat} (hi : i < s.size) (h : wide s i ≠ 0) : Utf8.decode s i = (pnt s i, wide s i) ∧ i + wide s i ≤ s.size ∧ (List.range (wide s i)).map (fun k => by' s (i + k)) = enc (pnt s i) ∧ pnt s i < 1114112 := by
  have hl := by_lt s i
  have hd : Utf8.decode s i = (pnt s i, wide s i) := by
    apply Prod.ext
    · rfl
    · unfold wide at h ⊢
      by_cases a : by' s i < 128
      · rw [if_pos a, decode_by]; simp [Lib.decodeN, a]
      · rw [if_neg a] at h ⊢
        by_cases b : (Utf8.decode s i).2 = 1
        · rw [if_pos b] at h; exact absurd rfl h
        · rw [if_neg b]
  refine ⟨hd, ?_⟩
  clear hd
  by_cases a : by' s i < 128
  · obtain ⟨e1, e2⟩ := wide_ascii a
    rw [e1, e2]
    refine ⟨by omega, ?_, by omega⟩
    simp [enc, a, List.range_succ]
  by_cases b : by' s i < 192 ∨ 248 ≤ by' s i
  · exact absurd (wide_none (by omega) b) h
  by_cases c : by' s i < 224
  · by_cases d : Two s i ∧ 128 ≤ val2 s i
    · obtain ⟨e1, e2⟩ := wide_two (by omega) c d.1 d.2
      rw [e1, e2]
      obtain ⟨⟨x, y⟩, z⟩ := d
      unfold val2 at *
      refine ⟨by omega, ?_, by omega⟩
      unfold enc
      rw [if_neg (by omega), if_pos (by omega)]
      simp only [List.range_succ, List.range_zero, List.nil_append, List.cons_append, List.map_cons, List.map_nil, Nat.add_zero, List.cons.injEq, and_true]
      omega
    · exact absurd (wide_two_no (by omega) c d) h
  by_cases e : by' s i < 240
  · by_cases d : Three s i ∧ 2048 ≤ val3 s i ∧ (val3 s i < 55296 ∨ 57344 ≤ val3 s i)
    · obtain ⟨e1, e2⟩ := wide_three (by omega) e d.1 d.2.1 d.2.2
      rw [e1, e2]
      obtain ⟨⟨x, y, y'⟩, z⟩ := d
      unfold val3 at *
      refine ⟨by omega, ?_, by omega⟩
      unfold enc
      rw [if_neg (by omega), if_neg (by omega), if_pos (by omega)]
      simp only [List.range_succ, List.range_zero, List.nil_append, List.cons_append, List.map_cons, List.map_nil, Nat.add_zero, List.cons.injEq, and_true]
      omega
    · exact absurd (wide_three_no (by omega) e d) h
  · by_cases d : Four s i ∧ 65536 ≤ val4 s i ∧ val4 s i ≤ 1114111
    · obtain ⟨e1, e2⟩ := wide_four (by omega) (by omega) d.1 d.2.1 d.2.2
      rw [e1, e2]
      obtain ⟨⟨x, y, y', y''⟩, z⟩ := d
      unfold val4 at *
      refine ⟨by omega, ?_, by omega⟩
      unfold enc
      rw [if_neg (by omega), if_neg (by omega), if_neg (by omega)]
      simp only [List.range_succ, List.range_zero, List.nil_append, List.cons_append, List.map_cons, List.map_nil, Nat.add_zero, List.cons.injEq, and_true]
      omega
    · exact absurd (wide_four_no (by omega) (by omega) d) h

/-! ### the letters up to a place -/
inductive Read (s : ByteArray) : Nat → List Nat → Prop
  | none : Read s 0 []
  | more {i : Nat} {l : List Nat} : Read s i l → i < s.size → wide s i ≠ 0 → Read s (i + wide s i) (l ++ [pnt s i])

theorem Read.le {s : ByteArray} {i : Nat} {l : List Nat} (h : Read s i l) : i ≤ s.size ∧ l.length ≤ i := by
  induction h with
  | none => exact ⟨Nat.zero_le _, Nat.le_refl _⟩
  | more _ hi hw ih =>
    have := (letter_there hi hw).2.1
    simp only [List.length_append, List.length_singleton]
    omega

theorem Read.bytes {s : ByteArray} {i : Nat} {l : List Nat} (h : Read s i l) : (List.range i).map (by' s) = l.flatMap enc := by
  induction h with
  | none => rfl
  | @more i l _ hi hw ih =>
    have e := (letter_there hi hw).2.2.1
    rw [List.range_add, List.map_append, ih, List.flatMap_append, List.map_map]
    simp only [List.flatMap_cons, List.flatMap_nil, List.append_nil]
    rw [← e]
    rfl

theorem Read.small {s : ByteArray} {i : Nat} {l : List Nat} (h : Read s i l) : ∀ x ∈ l, x < 1114112 := by
  induction h with
  | none => simp
  | more _ hi hw ih =>
    intro x hx
    rw [List.mem_append, List.mem_singleton] at hx
    rcases hx with hx | rfl
    · exact ih x hx
    · exact (letter_there hi hw).2.2.2

/-- The text back from its numbers. -/
theorem Read.inj {s t : ByteArray} {l : List Nat} (h : Read s s.size l) (k : Read t t.size l) : s = t := by
  have e := h.bytes.trans k.bytes.symm
  have hs : s.size = t.size := by simpa using congrArg List.length e
  have hb : ∀ j, j < s.size → by' s j = by' t j := fun j hj => by
    have := congrArg (fun x => x[j]?) e
    simp only [List.getElem?_map, List.getElem?_range hj, List.getElem?_range (show j < t.size by omega), Option.map_some, Option.some.injEq] at this
    exact this
  have hd : s.data.toList = t.data.toList := by
    apply List.ext_getElem
    · simpa using hs
    · intro j h1 h2
      have hj : j < s.size := by simpa using h1
      have := hb j hj
      rw [by_eq s j hj, by_eq t j (by omega)] at this
      exact UInt8.toNat.inj this
  have : s.data = t.data := by
    apply Array.ext'
    exact hd
  cases s; cases t
  simpa using this

/-- []rune tells the same numbers. -/
theorem Read.runes {s : ByteArray} {i : Nat} {l : List Nat} (h : Read s i l) : ∃ b, s.size - i ≤ b ∧ Conv.runesFrom s s.size 0 #[] = Conv.runesFrom s b i (l.map fun n : Nat => Value.int .i32 (n : Int)).toArray := by
  induction h with
  | none => exact ⟨s.size, by omega, rfl⟩
  | @more i l _ hi hw ih =>
    obtain ⟨b, hb, e⟩ := ih
    obtain ⟨hd, hle, _⟩ := letter_there hi hw
    obtain ⟨b', rfl⟩ : ∃ b', b = b' + 1 := ⟨b - 1, by omega⟩
    refine ⟨b', by omega, ?_⟩
    rw [e, Conv.runesFrom, if_pos hi, hd]
    simp
theorem runes_of {s : ByteArray} {l : List Nat} (h : Read s s.size l) : Conv.runesFrom s s.size 0 #[] = (l.map fun n : Nat => Value.int .i32 (n : Int)).toArray := by
  obtain ⟨b, _, e⟩ := h.runes
  rw [e]
  cases b with
  | zero => rfl
  | succ b => rw [Conv.runesFrom, if_neg (by omega)]

/-! ### reading is determined -/
/-- The place behind so many letters. -/
def pos (s : ByteArray) : Nat → Nat
  | 0 => 0
  | k + 1 => pos s k + wide s (pos s k)
theorem pos_mono (s : ByteArray) : ∀ {j k : Nat}, j ≤ k → pos s j ≤ pos s k := by
  intro j k h
  induction h with
  | refl => exact Nat.le_refl _
  | step _ ih => exact Nat.le_trans ih (Nat.le_add_right _ _)
theorem Read.at {s : ByteArray} {i : Nat} {l : List Nat} (h : Read s i l) : i = pos s l.length ∧ ∀ k, k < l.length → wide s (pos s k) ≠ 0 := by
  induction h with
  | none => exact ⟨rfl, fun k hk => absurd hk (by simp)⟩
  | @more i l _ hi hw ih =>
    obtain ⟨e, ha⟩ := ih
    simp only [List.length_append, List.length_singleton]
    refine ⟨by show _ = pos s l.length + wide s (pos s l.length); rw [← e], fun k hk => ?_⟩
    by_cases ek : k = l.length
    · rw [ek, ← e]; exact hw
    · exact ha k (by omega)
/-- Where a letter is none there is no reading of the whole. -/
theorem Read.stuck {s : ByteArray} {i : Nat} {l : List Nat} (h : Read s i l) (hi : i < s.size) (hw : wide s i = 0) (l' : List Nat) : ¬ Read s s.size l' := by
  intro k
  obtain ⟨e, _⟩ := h.at
  obtain ⟨e', ha⟩ := k.at
  by_cases hl : l.length < l'.length
  · have := ha _ hl
    rw [← e] at this
    exact this hw
  · have := pos_mono s (show l'.length ≤ l.length by omega)
    omega
theorem Read.each {s : ByteArray} {i : Nat} {l : List Nat} (h : Read s i l) : ∀ k (hk : k < l.length), l[k] = pnt s (pos s k) := by
  induction h with
  | none => intro k hk; exact absurd hk (by simp)
  | @more i l hr hi hw ih =>
    intro k hk
    have e := hr.at.1
    by_cases ek : k < l.length
    · rw [List.getElem_append_left ek]; exact ih k ek
    · have : k = l.length := by simp only [List.length_append, List.length_singleton] at hk; omega
      subst this
      rw [List.getElem_append_right (by omega)]
      simp [← e]
theorem Read.unique {s : ByteArray} {i : Nat} {l l' : List Nat} (h : Read s i l) (k : Read s i l') : l = l' := by
  obtain ⟨e, ha⟩ := h.at
  obtain ⟨e', ha'⟩ := k.at
  have hl : l.length = l'.length := by
    rcases Nat.lt_trichotomy l.length l'.length with c | c | c
    · have h1 := ha' _ c
      have h2 := pos_mono s (show l.length + 1 ≤ l'.length from c)
      have h3 : pos s (l.length + 1) = pos s l.length + wide s (pos s l.length) := rfl
      omega
    · exact c
    · have h1 := ha _ c
      have h2 := pos_mono s (show l'.length + 1 ≤ l.length from c)
      have h3 : pos s (l'.length + 1) = pos s l'.length + wide s (pos s l'.length) := rfl
      omega
  apply List.ext_getElem hl
  intro j h1 h2
  rw [h.each j h1, k.each j h2]
end Go.Proofs.Ytohhcmcelofgeaa
