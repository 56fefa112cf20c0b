/-
  Plain facts on texts told by their code points: reading them is told by their bytes; the first and the last letter; white space taken away at both ends. No program in sight. Conditions: none.
-/
import Derived.Test.YtohhcmcelofgeaaUtf
import Derived.Lib.SpaceUEq
namespace Go.Proofs.Ytohhcmcelofgeaa
open Go

/-- A code point that may stand in a text. -/
def Sc (x : Nat) : Prop := x < 55296 ∨ 57344 ≤ x ∧ x < 1114112
/-- The bytes of a text, as numbers. -/
def bl (s : ByteArray) : List Nat := s.data.toList.map UInt8.toNat
theorem bl_length (s : ByteArray) : (bl s).length = s.size := by simp [bl]
theorem bl_at (s : ByteArray) (i : Nat) : (bl s).getD i 0 = by' s i := by
  unfold bl by'
  simp only [List.getD_eq_getElem?_getD, List.getElem?_map]
  cases s.data.toList[i]? <;> simp
theorem bl_range (s : ByteArray) : (List.range s.size).map (by' s) = bl s := by
  apply List.ext_getElem
  · simp [bl_length]
  · intro j h1 h2
    have := bl_at s j
    rw [List.getD_eq_getElem?_getD, List.getElem?_eq_getElem h2] at this
    simpa using this.symm
theorem bl_inj {s t : ByteArray} (h : bl s = bl t) : s = t := by
  have hd : s.data.toList = t.data.toList := by
    unfold bl at h
    exact List.map_inj_right (fun a b e => UInt8.toNat.inj e) |>.1 h
  have : s.data = t.data := Array.ext' hd
  cases s; cases t
  simpa using this

theorem enc_pos (x : Nat) : 0 < (enc x).length := by
  unfold enc
  repeat' split
  all_goals simp
theorem enc_le (x : Nat) : (enc x).length ≤ 4 := by
  unfold enc
  repeat' split
  all_goals simp
theorem enc_1 {x : Nat} (h : x < 128) : enc x = [x] := by unfold enc; rw [if_pos h]
theorem enc_2 {x : Nat} (h1 : 128 ≤ x) (h : x < 2048) : enc x = [192 + x / 64, 128 + x % 64] := by unfold enc; rw [if_neg (by omega), if_pos h]
theorem enc_3 {x : Nat} (h1 : 2048 ≤ x) (h : x < 65536) : enc x = [224 + x / 4096, 128 + x / 64 % 64, 128 + x % 64] := by unfold enc; rw [if_neg (by omega), if_neg (by omega), if_pos h]
theorem enc_4 {x : Nat} (h : 65536 ≤ x) : enc x = [240 + x / 262144, 128 + x / 4096 % 64, 128 + x / 64 % 64, 128 + x % 64] := by unfold enc; rw [if_neg (by omega), if_neg (by omega), if_neg (by omega)]

theorem wide_enc {s : ByteArray} {i x : Nat} (hx : Sc x) (hl : i + (enc x).length ≤ s.size) (hb : ∀ k, k < (enc x).length → by' s (i + k) = (enc x).getD k 0) : wide s i = (enc x).length ∧ pnt s i = x := by
  unfold Sc at hx
  by_cases h1 : x < 128
  · rw [enc_1 h1] at hl hb ⊢
    have b0 := hb 0 (by simp)
    simp at b0
    have := wide_ascii (s := s) (i := i) (by omega)
    exact ⟨by simp [this.1], by rw [this.2, b0]⟩
  by_cases h2 : x < 2048
  · rw [enc_2 (by omega) h2] at hl hb ⊢
    have b0 := hb 0 (by simp)
    have b1 := hb 1 (by simp)
    simp at b0 b1 hl
    have hv : val2 s i = x := by unfold val2; omega
    have := wide_two (s := s) (i := i) (by omega) (by omega) (by unfold Two; omega) (by omega)
    exact ⟨by simp [this.1], by rw [this.2, hv]⟩
  by_cases h3 : x < 65536
  · rw [enc_3 (by omega) h3] at hl hb ⊢
    have b0 := hb 0 (by simp)
    have b1 := hb 1 (by simp)
    have b2 := hb 2 (by simp)
    simp at b0 b1 b2 hl
    have hv : val3 s i = x := by unfold val3; omega
    have := wide_three (s := s) (i := i) (by omega) (by omega) (by unfold Three; omega) (by omega) (by omega)
    exact ⟨by simp [this.1], by rw [this.2, hv]⟩
  · rw [enc_4 (by omega)] at hl hb ⊢
    have b0 := hb 0 (by simp)
    have b1 := hb 1 (by simp)
    have b2 := hb 2 (by simp)
    have b3 := hb 3 (by simp)
    simp at b0 b1 b2 b3 hl
    have hv : val4 s i = x := by unfold val4; omega
    have := wide_four (s := s) (i := i) (by omega) (by omega) (by unfold Four; omega) (by omega) (by omega)
    exact ⟨by simp [this.1], by rw [this.2, hv]⟩

theorem pnt_sc {s : ByteArray} {i : Nat} (hi : i < s.size) (h : wide s i ≠ 0) : Sc (pnt s i) := by
  have hb := by_lt s i
  unfold Sc
  by_cases h1 : by' s i < 128
  · have := (wide_ascii h1).2; omega
  by_cases h2 : by' s i < 192
  · exact absurd (wide_none (by omega) (by omega)) h
  by_cases h3 : by' s i < 224
  · by_cases d : Two s i ∧ 128 ≤ val2 s i
    · have := (wide_two (by omega) h3 d.1 d.2).2
      have hT := d.1
      unfold Two at hT
      rw [this]; unfold val2; omega
    · exact absurd (wide_two_no (by omega) h3 d) h
  by_cases h4 : by' s i < 240
  · by_cases d : Three s i ∧ 2048 ≤ val3 s i ∧ (val3 s i < 55296 ∨ 57344 ≤ val3 s i)
    · have := (wide_three (by omega) h4 d.1 d.2.1 d.2.2).2
      have hT := d.1
      unfold Three at hT
      have hs := (letter_there hi h).2.2.2
      omega
    · exact absurd (wide_three_no (by omega) h4 d) h
  by_cases h5 : by' s i < 248
  · by_cases d : Four s i ∧ 65536 ≤ val4 s i ∧ val4 s i ≤ 1114111
    · have := (wide_four (by omega) h5 d.1 d.2.1 d.2.2).2
      omega
    · exact absurd (wide_four_no (by omega) h5 d) h
  · exact absurd (wide_none (by omega) (by omega)) h
theorem Read.sc {s : ByteArray} {i : Nat} {l : List Nat} (h : Read s i l) : ∀ x ∈ l, Sc x := by
  induction h with
  | none => simp
  | more _ hi hw ih =>
    intro x hx
    rw [List.mem_append, List.mem_singleton] at hx
    rcases hx with hx | rfl
    · exact ih x hx
    · exact pnt_sc hi hw

/-- What the bytes say is what is read. -/
def Is (s : ByteArray) (l : List Nat) : Prop := bl s = l.flatMap enc ∧ ∀ x ∈ l, Sc x
theorem Read.is {s : ByteArray} {l : List Nat} (h : Read s s.size l) : Is s l := ⟨by rw [← bl_range, h.bytes], h.sc⟩
theorem is_at {s : ByteArray} {a b : List Nat} {x : Nat} (h : bl s = a.flatMap enc ++ (enc x ++ b)) (hx : Sc x) : wide s (a.flatMap enc).length = (enc x).length ∧ pnt s (a.flatMap enc).length = x ∧ (a.flatMap enc).length + (enc x).length ≤ s.size := by
  have hl : (a.flatMap enc).length + (enc x).length ≤ s.size := by
    have := congrArg List.length h
    rw [bl_length, List.length_append, List.length_append] at this
    omega
  have := wide_enc hx hl (fun k hk => by
    rw [← bl_at, h, List.getD_eq_getElem?_getD, List.getElem?_append_right (by omega), Nat.add_sub_cancel_left, List.getElem?_append_left hk]
    rw [List.getD_eq_getElem?_getD])
  exact ⟨this.1, this.2, hl⟩
theorem Is.read_to {s : ByteArray} : ∀ (b a : List Nat), bl s = (a ++ b).flatMap enc → (∀ x ∈ a ++ b, Sc x) → Read s (a.flatMap enc).length a → Read s s.size (a ++ b)
  | [], a, h, _, hr => by
    rw [List.append_nil] at h ⊢
    have : (a.flatMap enc).length = s.size := by rw [← h, bl_length]
    rwa [this] at hr
  | x :: b, a, h, hs, hr => by
    have hx := hs x (by simp)
    have h' : bl s = a.flatMap enc ++ (enc x ++ b.flatMap enc) := by rw [h]; simp
    obtain ⟨e1, e2, e3⟩ := is_at h' hx
    have hp := enc_pos x
    have := Read.more hr (by omega) (by rw [e1]; omega)
    rw [e1, e2] at this
    have e : a ++ x :: b = (a ++ [x]) ++ b := by simp
    rw [e] at h hs ⊢
    refine Is.read_to b (a ++ [x]) h hs ?_
    have e4 : ((a ++ [x]).flatMap enc).length = (a.flatMap enc).length + (enc x).length := by simp
    rw [e4]
    exact this
theorem Is.read {s : ByteArray} {l : List Nat} (h : Is s l) : Read s s.size l := by
  have := Is.read_to (s := s) l [] (by simpa using h.1) (by simpa using h.2) (by simpa using Read.none)
  simpa using this
theorem Is.inj {s t : ByteArray} {l : List Nat} (h : Is s l) (k : Is t l) : s = t := bl_inj (h.1.trans k.1.symm)
theorem Is.size {s : ByteArray} {l : List Nat} (h : Is s l) : s.size = (l.flatMap enc).length := by rw [← h.1, bl_length]
theorem Is.pos {s : ByteArray} {l : List Nat} (h : Is s l) (hl : l ≠ []) : 0 < s.size := by
  rw [h.size]
  cases l with
  | nil => exact absurd rfl hl
  | cons x l => have := enc_pos x; simp; omega
theorem Is.nil_of {s : ByteArray} {l : List Nat} (h : Is s l) (h0 : s.size = 0) : l = [] := by
  cases l with
  | nil => rfl
  | cons x l => have := h.pos (by simp); omega

/-- The first letter. -/
theorem Is.head {s : ByteArray} {x : Nat} {l : List Nat} (h : Is s (x :: l)) : Utf8.decode s 0 = (x, (enc x).length) ∧ (enc x).length ≤ s.size ∧ ∀ t : ByteArray, t.data.toList = s.data.toList.drop (enc x).length → Is t l := by
  obtain ⟨h1, h2⟩ := h
  have hx := h2 x (by simp)
  have h' : bl s = ([] : List Nat).flatMap enc ++ (enc x ++ l.flatMap enc) := by rw [h1]; simp
  obtain ⟨e1, e2, e3⟩ := is_at h' hx
  simp only [List.flatMap_nil, List.length_nil, Nat.zero_add] at e1 e2 e3
  have hp := enc_pos x
  have hd := (letter_there (s := s) (i := 0) (by omega) (by omega)).1
  rw [e1, e2] at hd
  refine ⟨hd, e3, fun t ht => ⟨?_, fun y hy => h2 y (by simp [hy])⟩⟩
  have : bl t = (bl s).drop (enc x).length := by unfold bl; rw [ht, List.map_drop]
  rw [this, h1, List.flatMap_cons, List.drop_left]

/-! ### the last letter -/
theorem toNat_list {l : List UInt8} {m : List Nat} (h : l.map UInt8.toNat = m) : l = m.map UInt8.ofNat := by
  subst h
  rw [List.map_map]
  conv => lhs; rw [← List.map_id l]
  apply List.map_congr_left
  intro a _
  simp
theorem split_bytes {l : List UInt8} {a b : List Nat} (h : l.map UInt8.toNat = a ++ b) : ∃ p q, l = p ++ q ∧ p.map UInt8.toNat = a ∧ q.map UInt8.toNat = b := by
  refine ⟨l.take a.length, l.drop a.length, (List.take_append_drop _ _).symm, ?_, ?_⟩
  · rw [List.map_take, h, List.take_left]
  · rw [List.map_drop, h, List.drop_left]
theorem decodeL_enc {q : List UInt8} {x : Nat} (hx : Sc x) (h : q.map UInt8.toNat = enc x) : Lib.decodeL q = (x, (enc x).length) := by
  have hI : Is ⟨q.toArray⟩ [x] := ⟨by unfold bl; simpa using h, by simpa using hx⟩
  exact (hI.head).1
theorem last4 (t : List UInt8) (c0 c1 c2 c3 : UInt8) (h3 : 128 ≤ c3.toNat) (h2 : Lib.runeStartB c2 = false) (h1 : Lib.runeStartB c1 = false) (h0 : Lib.runeStartB c0 = true) (hd : (Lib.decodeL [c0, c1, c2, c3]).2 = 4) : Lib.decodeLastL (t ++ [c0, c1, c2, c3]) = Lib.decodeL [c0, c1, c2, c3] := by
  have g1 := Lib.getD_app_end t [c0, c1, c2, c3] 1 (by omega) (by simp)
  have g2 := Lib.getD_app_end t [c0, c1, c2, c3] 2 (by omega) (by simp)
  have g3 := Lib.getD_app_end t [c0, c1, c2, c3] 3 (by omega) (by simp)
  have g4 := Lib.getD_app_end t [c0, c1, c2, c3] 4 (by omega) (by simp)
  have hl : (t ++ [c0, c1, c2, c3]).length = t.length + 4 := by simp
  have hs : Lib.lastStart (t ++ [c0, c1, c2, c3]) = (t ++ [c0, c1, c2, c3]).length - 4 := by
    unfold Lib.lastStart
    simp only [g2, g3, g4]
    rw [if_neg (by omega)]
    simp only [List.length_cons, List.length_nil, List.getD_cons_succ, List.getD_cons_zero, Nat.reduceAdd, Nat.reduceSub, h2, h1, h0, Bool.false_eq_true, if_false, if_true]
    rw [if_neg (by omega), if_neg (by omega)]
  have hdrop := Lib.drop_app_end t [c0, c1, c2, c3]
  unfold Lib.decodeLastL
  rw [if_neg (by simp), g1, if_neg (by simp; omega), hs]
  simp only [List.length_cons, List.length_nil] at hdrop
  simp only [hdrop, hd]
  rw [if_pos (by omega)]
theorem start_no {c : UInt8} (h1 : 128 ≤ c.toNat) (h2 : c.toNat < 192) : Lib.runeStartB c = false := by
  unfold Lib.runeStartB
  have : c.toNat / 64 = 2 := by omega
  rw [this]; rfl
theorem start_yes {c : UInt8} (h : 192 ≤ c.toNat) : Lib.runeStartB c = true := by
  unfold Lib.runeStartB
  have : c.toNat / 64 ≠ 2 := by omega
  simpa using this
theorem len4 {α : Type} {q : List α} (h : q.length = 4) : ∃ a b c d, q = [a, b, c, d] := by
  match q, h with
  | [a, b, c, d], _ => exact ⟨a, b, c, d, rfl⟩
theorem len2 {α : Type} {q : List α} (h : q.length = 2) : ∃ a b, q = [a, b] := by
  match q, h with
  | [a, b], _ => exact ⟨a, b, rfl⟩
theorem len3 {α : Type} {q : List α} (h : q.length = 3) : ∃ a b c, q = [a, b, c] := by
  match q, h with
  | [a, b, c], _ => exact ⟨a, b, c, rfl⟩
theorem last_enc (t q : List UInt8) {x : Nat} (hx : Sc x) (h : q.map UInt8.toNat = enc x) : Lib.decodeLastL (t ++ q) = (x, (enc x).length) := by
  have hd := decodeL_enc hx h
  by_cases h1 : x < 128
  · rw [enc_1 h1] at h hd ⊢
    match q, h with
    | [c], h =>
      simp at h
      rw [Lib.decodeLastL_ascii t c (by omega), h]
      rfl
  by_cases h2 : x < 2048
  · rw [enc_2 (by omega) h2] at h hd ⊢
    obtain ⟨c0, c1, rfl⟩ := len2 (show q.length = 2 by rw [← List.length_map (f := UInt8.toNat), h]; rfl)
    · simp at h
      rw [Lib.last2 t c0 c1 (by omega) (start_yes (by omega)) (by rw [hd]; rfl), hd]
  by_cases h3 : x < 65536
  · rw [enc_3 (by omega) h3] at h hd ⊢
    obtain ⟨c0, c1, c2, rfl⟩ := len3 (show q.length = 3 by rw [← List.length_map (f := UInt8.toNat), h]; rfl)
    · simp at h
      rw [Lib.last3 t c0 c1 c2 (by omega) (start_no (by omega) (by omega)) (start_yes (by omega)) (by rw [hd]; rfl), hd]
  · rw [enc_4 (by omega)] at h hd ⊢
    obtain ⟨c0, c1, c2, c3, rfl⟩ := len4 (show q.length = 4 by rw [← List.length_map (f := UInt8.toNat), h]; rfl)
    · simp at h
      rw [last4 t c0 c1 c2 c3 (by omega) (start_no (by omega) (by omega)) (start_no (by omega) (by omega)) (start_yes (by omega)) (by rw [hd]; rfl), hd]
theorem Is.last {s : ByteArray} {x : Nat} {l : List Nat} (h : Is s (l ++ [x])) : Lib.decodeLastL s.data.toList = (x, (enc x).length) ∧ (enc x).length ≤ s.size ∧ ∀ t : ByteArray, t.data.toList = s.data.toList.take (s.size - (enc x).length) → Is t l := by
  obtain ⟨h1, h2⟩ := h
  have hx := h2 x (by simp)
  have h' : s.data.toList.map UInt8.toNat = l.flatMap enc ++ enc x := by show bl s = _; rw [h1]; simp
  obtain ⟨p, q, e, e1, e2⟩ := split_bytes h'
  have hl : s.size = p.length + q.length := by rw [← bl_length]; unfold bl; rw [e]; simp
  have hq : q.length = (enc x).length := by rw [← e2]; simp
  refine ⟨by rw [e]; exact last_enc p q hx e2, by omega, fun t ht => ⟨?_, fun y hy => h2 y (by simp [hy])⟩⟩
  unfold bl
  rw [ht, e, hl, hq, Nat.add_sub_cancel, List.take_left, e1]

/-! ### white space at the ends -/
def sp (x : Nat) : Bool := Lib.isSpaceR x
def dropL (l : List Nat) : List Nat := l.dropWhile sp
def dropR (l : List Nat) : List Nat := (l.reverse.dropWhile sp).reverse
def trm (l : List Nat) : List Nat := dropR (dropL l)
theorem dropL_cons (x : Nat) (l : List Nat) : dropL (x :: l) = if sp x = true then dropL l else x :: l := by
  unfold dropL
  rw [List.dropWhile_cons]
theorem dropR_snoc (x : Nat) (l : List Nat) : dropR (l ++ [x]) = if sp x = true then dropR l else l ++ [x] := by
  unfold dropR
  rw [List.reverse_append, List.reverse_singleton, List.singleton_append, List.dropWhile_cons]
  split <;> simp
theorem dropL_suffix : ∀ l : List Nat, ∃ p, l = p ++ dropL l
  | [] => ⟨[], rfl⟩
  | x :: l => by
    rw [dropL_cons]
    by_cases h : sp x = true
    · obtain ⟨p, e⟩ := dropL_suffix l
      rw [if_pos h]
      exact ⟨x :: p, by rw [List.cons_append, ← e]⟩
    · rw [if_neg h]
      exact ⟨[], rfl⟩
theorem dropL_head {l : List Nat} {x : Nat} {m : List Nat} (h : dropL l = x :: m) : sp x = false := by
  induction l with
  | nil => simp [dropL] at h
  | cons y l ih =>
    rw [dropL_cons] at h
    by_cases hy : sp y = true
    · rw [if_pos hy] at h; exact ih h
    · rw [if_neg hy] at h
      injection h with h1 _
      subst h1
      simpa using hy
theorem dropR_prefix (l : List Nat) : ∃ q, l = dropR l ++ q := by
  obtain ⟨p, e⟩ := dropL_suffix l.reverse
  refine ⟨p.reverse, ?_⟩
  have : l = (p ++ dropL l.reverse).reverse := by rw [← e, List.reverse_reverse]
  rw [List.reverse_append] at this
  exact this
theorem dropL_same {l : List Nat} (h : ∀ x m, l = x :: m → sp x = false) : dropL l = l := by
  cases l with
  | nil => rfl
  | cons x m => rw [dropL_cons, if_neg (by rw [h x m rfl]; simp)]
theorem dropR_dropR (l : List Nat) : dropR (dropR l) = dropR l := by
  have h : dropL (dropL l.reverse) = dropL l.reverse := dropL_same (fun x m h => dropL_head h)
  show (dropL (dropR l).reverse).reverse = _
  have : (dropR l).reverse = dropL l.reverse := by unfold dropR dropL; rw [List.reverse_reverse]
  rw [this, h]
  rfl
theorem trm_trm (l : List Nat) : trm (trm l) = trm l := by
  have h : dropL (trm l) = trm l := dropL_same (fun x m h => by
    obtain ⟨q, e⟩ := dropR_prefix (dropL l)
    have e2 : dropL l = x :: (m ++ q) := by rw [e]; show trm l ++ q = _; rw [h]; rfl
    exact dropL_head e2)
  unfold trm at h ⊢
  rw [h, dropR_dropR]
theorem trm_part (l : List Nat) : ∃ p q, l = p ++ (trm l ++ q) := by
  obtain ⟨p, e⟩ := dropL_suffix l
  obtain ⟨q, e2⟩ := dropR_prefix (dropL l)
  exact ⟨p, q, by rw [← show dropL l = trm l ++ q from e2]; exact e⟩
end Go.Proofs.Ytohhcmcelofgeaa
