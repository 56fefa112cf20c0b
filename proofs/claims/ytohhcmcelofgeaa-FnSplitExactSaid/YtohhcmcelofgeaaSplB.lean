/-
  zzIndex and zzSplitN. Conditions: none.
-/
import Derived.Test.YtohhcmcelofgeaaSplA
import Derived.Deep.AppendLies
import Derived.OwnWalk
namespace Go.Proofs.Ytohhcmcelofgeaa
open Go.RowKit
set_option linter.unusedVariables false
set_option linter.unusedSimpArgs false

/-- A text stands at a place of another. -/
def AtS (s sub : ByteArray) (i : Nat) : Prop := i + sub.size ≤ s.size ∧ s.extract i (i + sub.size) = sub
theorem bl_extract (s : ByteArray) (a b : Nat) : bl (s.extract a b) = ((bl s).drop a).take (b - a) := by
  unfold bl
  rw [Lib.extract_data, List.map_take, List.map_drop]
theorem atS_iff {s sub : ByteArray} {i : Nat} : AtS s sub i ↔ At (bl sub) (bl s) i := by
  unfold AtS At
  rw [bl_length, bl_length]
  constructor
  · rintro ⟨h1, h2⟩
    refine ⟨h1, ?_⟩
    have := congrArg bl h2
    rw [bl_extract] at this
    rwa [Nat.add_sub_cancel_left] at this
  · rintro ⟨h1, h2⟩
    refine ⟨h1, bl_inj ?_⟩
    rw [bl_extract, Nat.add_sub_cancel_left]
    exact h2
def IdxTo (w : World) (s sub : ByteArray) (e : Ending) (w' : World) : Prop :=
  ((∃ i : Nat, e = .returned (.int .i64 i) ∧ AtS s sub i ∧ ∀ j, j < i → ¬ AtS s sub j) ∨ (e = .returned (.int .i64 (-1)) ∧ ∀ j, ¬ AtS s sub j)) ∧ w = w'
set_option maxRecDepth 100000 in
theorem index_any (s sub : ByteArray) (hs : s.size ≤ 10000) (hb : sub.size ≤ 10000) (w : World) :
    Calls Try.prog 42 #[.string s, .string sub] w (IdxTo w s sub) := by
  go_enter Try.func42, Try.ntmps42
  go_wp2
  go_loop [5] (fun i => ∃ k : Nat, k ≤ s.size + 1 ∧ i = .int .i64 k ∧ ∀ j, j < k → ¬ AtS s sub j) (fun i => s.size + 1 - (intOf i).toNat)
  case atStart => exact ⟨0, by omega, rfl, fun j h => absurd h (by omega)⟩
  case round =>
    obtain ⟨k, hk, rfl, hall⟩ := hrel
    have HA := Lib.hid hall
    clear hall
    by_cases hlt : k + sub.size ≤ s.size
    · have z1 : (k : Int) + (sub.size : Int) ≤ (s.size : Int) := by omega
      by_cases he : s.extract k (k + sub.size) = sub
      · have hq : ((s.extract k (k + sub.size)).toList == sub.toList) = true := by rw [he]; simp
        have HE : Hid (AtS s sub k) := ⟨hlt, he⟩
        clear he
        go_wp2
        go_ret
        exact ⟨.inl ⟨k, rfl, HE.out, HA.out⟩, rfl⟩
      · have hq : ((s.extract k (k + sub.size)).toList == sub.toList) = false := by
          rw [beq_eq_false_iff_ne]
          intro h
          apply he
          apply bl_inj
          unfold bl
          rw [← Lib.toList_data, ← Lib.toList_data, h]
        have HN : Hid (∀ j, j < k + 1 → ¬ AtS s sub j) := fun j hj => by
          by_cases e : j = k
          · subst e; exact fun h => he h.2
          · exact HA.out j (by omega)
        clear he
        go_wp2
        go_round
        case rel => exact ⟨k + 1, by omega, by go_num, HN.out⟩
        case measure => simp [intOf]; omega
    · have z1 : ¬ (k : Int) + (sub.size : Int) ≤ (s.size : Int) := by omega
      have HN : Hid (∀ j, ¬ AtS s sub j) := fun j h => by
        have := h.1
        exact HA.out j (by omega) h
      go_wp2
      go_ret
      exact ⟨.inr ⟨rfl, HN.out⟩, rfl⟩

/-- What the place says of the letters. -/
theorem idx_yes {t sub : ByteArray} {rest u : List Nat} (ht : Is t rest) (hu : Is sub u) (hne : u ≠ []) {i : Nat} (h1 : AtS t sub i) (h2 : ∀ j, j < i → ¬ AtS t sub j) :
    ∃ k, first u rest = some k ∧ k + u.length ≤ rest.length ∧ i + sub.size ≤ t.size ∧ Is (t.extract 0 i) (rest.take k) ∧ Is (t.extract (i + sub.size) t.size) (rest.drop (k + u.length)) := by
  have a1 := atS_iff.1 h1
  rw [ht.1, hu.1] at a1
  obtain ⟨k, hf, hat, hl⟩ := first_bytes hu.2 ht.2 hne a1 (fun j hj h => h2 j hj (atS_iff.2 (by rw [ht.1, hu.1]; exact h)))
  obtain ⟨p, b, rfl, rfl⟩ := at_iff.1 hat
  rw [List.take_left] at hl
  have e1 : (p ++ (u ++ b)).take p.length = p := List.take_left
  have e2 : (p ++ (u ++ b)).drop (p.length + u.length) = b := by
    rw [← List.append_assoc, ← List.length_append, List.drop_left]
  refine ⟨p.length, ?_⟩
  rw [e1, e2]
  have hb : bl t = p.flatMap enc ++ (u.flatMap enc ++ b.flatMap enc) := by rw [ht.1]; simp
  refine ⟨hf, hat.1, h1.1, ⟨?_, fun x hx => ht.2 x (by simp [hx])⟩, ⟨?_, fun x hx => ht.2 x (by simp [hx])⟩⟩
  · rw [bl_extract, List.drop_zero, Nat.sub_zero, hb, ← hl, List.take_left]
  · rw [bl_extract, hb, hu.size]
    have e3 : i + (u.flatMap enc).length = (p.flatMap enc ++ u.flatMap enc).length := by rw [List.length_append, hl]
    rw [e3, ← List.append_assoc, List.drop_left]
    apply List.take_of_length_le
    rw [← bl_length, hb, ← List.append_assoc, List.length_append]
    omega
theorem idx_no {t sub : ByteArray} {rest u : List Nat} (ht : Is t rest) (hu : Is sub u) (hne : u ≠ []) (h : ∀ j, ¬ AtS t sub j) : first u rest = none :=
  none_bytes hu.2 ht.2 hne fun j hj => h j (atS_iff.2 (by rw [ht.1, hu.1]; exact hj))

/-- Texts of these letters. -/
def TextsOf (ts : List ByteArray) (ps : List (List Nat)) : Prop := ts.length = ps.length ∧ ∀ (j : Nat) (t : ByteArray) (p : List Nat), ts[j]? = some t → ps[j]? = some p → Is t p
theorem TextsOf.nil : TextsOf [] [] := ⟨rfl, fun j t p h => by simp at h⟩
theorem TextsOf.snoc {ts : List ByteArray} {ps : List (List Nat)} {t : ByteArray} {p : List Nat} (h : TextsOf ts ps) (k : Is t p) : TextsOf (ts ++ [t]) (ps ++ [p]) := by
  refine ⟨by simp [h.1], fun j t' p' a b => ?_⟩
  have hl := h.1
  by_cases hj : j < ts.length
  · rw [List.getElem?_append_left hj] at a
    rw [List.getElem?_append_left (by omega)] at b
    exact h.2 j t' p' a b
  · rw [List.getElem?_append_right (by omega)] at a
    rw [List.getElem?_append_right (by omega)] at b
    have : j = ts.length := by
      have := (List.getElem?_eq_some_iff.1 a).1
      simp at this
      omega
    subst this
    rw [← hl] at b
    simp at a b
    subst a b
    exact k
theorem strs_snoc (ts : List ByteArray) (t : ByteArray) : strs (ts ++ [t]) = strs ts ++ [.string t] := by simp [strs]
theorem info_str : (Try.prog.info? 9).map (fun i => (i.zero, i.size, i.bytes)) = some (some (.string ⟨#[]⟩), 1, 16) := by kernel_rfl
def SplTo (w : World) (ps : List (List Nat)) (e : Ending) (w' : World) : Prop := ∃ v ts, e = .returned v ∧ TextsOf ts ps ∧ w'.ownsRow w.heap.size 9 1 v ts.length (strs ts) ∧ Below w.heap.size w w'
/-- What is carried from round to round. -/
structure Spl (u l : List Nat) (M : Nat) (t : ByteArray) (rest : List Nat) (ts : List ByteArray) (ps : List (List Nat)) : Prop where
  is : Is t rest
  texts : TextsOf ts ps
  all : ps ++ parts u (M - ts.length) rest = parts u M l
  le : ts.length ≤ M
  sum : ts.length + rest.length ≤ l.length
theorem Spl.stop {u l : List Nat} {M : Nat} {t : ByteArray} {rest : List Nat} {ts : List ByteArray} {ps : List (List Nat)} (h : Spl u l M t rest ts ps) (hs : M ≤ ts.length ∨ first u rest = none) : TextsOf (ts ++ [t]) (parts u M l) := by
  have e : parts u (M - ts.length) rest = [rest] := by
    rcases hs with hs | hs
    · have : M - ts.length = 0 := by omega
      rw [this]; rfl
    · exact parts_none hs _
  rw [← h.all, e]
  exact h.texts.snoc h.is
theorem Spl.go {u l : List Nat} {M : Nat} {t : ByteArray} {rest : List Nat} {ts : List ByteArray} {ps : List (List Nat)} (h : Spl u l M t rest ts ps) (hM : ts.length < M) {k : Nat} {a b : ByteArray} (hne : u ≠ []) (hk : first u rest = some k) (hkl : k + u.length ≤ rest.length)
    (ha : Is a (rest.take k)) (hb : Is b (rest.drop (k + u.length))) : Spl u l M b (rest.drop (k + u.length)) (ts ++ [a]) (ps ++ [rest.take k]) := by
  have hul : 0 < u.length := by cases u with | nil => exact absurd rfl hne | cons => simp
  refine ⟨hb, h.texts.snoc ha, ?_, by simp; omega, by have := h.sum; simp; omega⟩
  rw [← h.all, parts_some hk (by omega), List.append_assoc]
  simp [show M - ts.length - 1 = M - (ts.length + 1) by omega]
def lenOf : Value → Nat
  | .string s => s.size
  | _ => 0

set_option maxRecDepth 100000 in
set_option maxHeartbeats 2000000 in
theorem splitN_any (s sep : ByteArray) (l u : List Nat) (hs : Is s l) (hu : Is sep u) (hne : u ≠ []) (h1 : s.size ≤ 10000) (h2 : sep.size ≤ 10000) (n : Int) (M : Nat) (hn : (n = -1 ∧ M = 40000) ∨ (n = M + 1 ∧ M ≤ 40000)) (w : World) :
    Calls Try.prog 33 #[.string s, .string sep, .int .i64 n] w (SplTo w (parts u M l)) := by
  obtain ⟨i9, hi9, hz9, hz9', hz9''⟩ := info_parts info_str
  have hll := hs.read.le.2
  have hsp : 0 < sep.size := hu.pos hne
  have HS := Lib.hid hs
  have HU := Lib.hid hu
  have HNE := Lib.hid hne
  have HN := Lib.hid hn
  have hnb : -1 ≤ n ∧ n ≤ 40001 := by omega
  obtain ⟨nb1, nb2⟩ := hnb
  clear hs hu hne hn
  go_enter Try.func33, Try.ntmps33
  go_wp2
  go_loopw [0, 7] (fun v out wr => ∃ (t : ByteArray) (rest : List Nat) (ts : List ByteArray) (ps : List (List Nat)), v = .string t ∧ Spl u l M t rest ts ps ∧ t.size ≤ s.size ∧ wr.ownsRow w.heap.size 9 1 out ts.length (strs ts) ∧ Below w.heap.size w wr) (fun v _ _ => lenOf v)
  case atStart => exact ⟨s, l, [], [], rfl, ⟨HS.out, TextsOf.nil, by simp, by simp, by simp⟩, by omega, World.ownsRow_nil _ _ _ _, Below.refl _ _⟩
  case round =>
    obtain ⟨t, rest, ts, ps, rfl, hsp2, hts, ho, hf⟩ := hrel
    obtain ⟨wo, rfl⟩ : ∃ wo : World, wo = wr := ⟨_, rfl⟩
    have HP := Lib.hid hsp2
    have HO := Lib.hid ho
    have HF := Lib.hid hf
    have hsz := hf.size
    have hsum := hsp2.sum
    have hle := hsp2.le
    have htl : ts.length ≤ 10000 := by omega
    have HOlt := Lib.hid ho.lt
    obtain ⟨A7, c7, rfl, hc7⟩ := own_form ho
    clear hsp2 ho hf hle hsum
    by_cases hlt : ts.length < M
    · have hd : n < 0 ∨ (0 ≤ n ∧ (ts.length : Int) < n - 1) := by have := HN.out; omega
      have hix := index_any t sep (by omega) h2 wo
      have HIX := Lib.hid hix
      clear hix
      rcases hd with hd | ⟨hd1, hd2⟩
      all_goals
        go_wp2_with fail
        go_at_call 42
        refine HIX.out.mono ?_
        rintro e' w' ⟨⟨i, rfl, hat, hno⟩ | ⟨rfl, hno⟩, rfl⟩
        · obtain ⟨k, hk, hkl, hil, ha, hb⟩ := idx_yes HP.out.is HU.out HNE.out hat hno
          have HG := Lib.hid (HP.out.go hlt HNE.out hk hkl ha hb)
          have q1 : (i : Int) ≤ (t.size : Int) := by omega
          have q2 : (i : Int) + (sep.size : Int) ≤ (t.size : Int) := by omega
          have q3 : (0 : Int) ≤ (i : Int) := by omega
          clear hat hno hk hkl ha hb
          go_wp2_with (at_builtin; refine wpList_append_lies _ rfl (.tmp 23) (.tmp 27) _ rfl w.heap.size 9 i9 _ 1 16 Try.underlying29 hi9 hz9 hz9' hz9'' rfl (by omega) (.slice A7 ts.length c7) ts.length (strs ts) rfl (HO.out.alloc _) ⟨wo.heap.size, 0, none⟩ 1 1 [.string (t.extract 0 i)] rfl rfl (news_at _ _ _ _ (by simp)) (by simp [Value.oneCell']) (by omega) (by simp only [maxLen]; omega) (by omega) (by simp; omega) (wo.heap.size + 1) (by simp) ?_; intro g2 cap2 w4 hown4 hg4 hat4 hlt4)
          have HO4 : Hid (w4.ownsRow w.heap.size 9 1 (.slice (some ⟨g2, 0, none⟩) (ts.length + 1) cap2) (ts ++ [t.extract 0 i]).length (strs (ts ++ [t.extract 0 i]))) := by show World.ownsRow _ _ _ _ _ _ _; rw [strs_snoc, List.length_append]; exact hown4
          have HF4 := Lib.hid ((HF.out.alloc hsz _).grown hg4 (by simp; omega) (fun a ha => (HOlt.out a ha).1))
          have hes : (t.extract (i + sep.size) t.size).size = t.size - (i + sep.size) := by simp
          have HES := Lib.hid hes
          clear hown4 hg4 hat4 hlt4 hes
          go_wp2
          go_roundw
          case rel => exact ⟨t.extract (i + sep.size) t.size, _, _, _, rfl, HG.out, by have := HES.out; omega, HO4.out, HF4.out⟩
          case measure => simp only [lenOf]; have := HES.out; omega
        · have HST := Lib.hid (HP.out.stop (.inr (idx_no HP.out.is HU.out HNE.out hno)))
          clear hno
          go_wp2_with (at_builtin; refine wpList_append_lies _ rfl (.tmp 35) (.tmp 37) _ rfl w.heap.size 9 i9 _ 1 16 Try.underlying29 hi9 hz9 hz9' hz9'' rfl (by omega) (.slice A7 ts.length c7) ts.length (strs ts) rfl (HO.out.alloc _) ⟨wo.heap.size, 0, none⟩ 1 1 [.string t] rfl rfl (news_at _ _ _ _ (by simp)) (by simp [Value.oneCell']) (by omega) (by simp only [maxLen]; omega) (by omega) (by simp; omega) (wo.heap.size + 1) (by simp) ?_; intro g2 cap2 w4 hown4 hg4 hat4 hlt4)
          have HO4 : Hid (w4.ownsRow w.heap.size 9 1 (.slice (some ⟨g2, 0, none⟩) (ts.length + 1) cap2) (ts ++ [t]).length (strs (ts ++ [t]))) := by show World.ownsRow _ _ _ _ _ _ _; rw [strs_snoc, List.length_append]; exact hown4
          have HF4 := Lib.hid ((HF.out.alloc hsz _).grown hg4 (by simp; omega) (fun a ha => (HOlt.out a ha).1))
          clear hown4 hg4 hat4 hlt4
          go_wp2
          go_ret
          exact ⟨_, ts ++ [t], rfl, HST.out, HO4.out, HF4.out⟩
    · have hd1 : 0 ≤ n := by have := HN.out; omega
      have hd2 : ¬ (ts.length : Int) < n - 1 := by have := HN.out; omega
      have HST := Lib.hid (HP.out.stop (.inl (by omega)))
      go_wp2_with (at_builtin; refine wpList_append_lies _ rfl (.tmp 35) (.tmp 37) _ rfl w.heap.size 9 i9 _ 1 16 Try.underlying29 hi9 hz9 hz9' hz9'' rfl (by omega) (.slice A7 ts.length c7) ts.length (strs ts) rfl (HO.out.alloc _) ⟨wo.heap.size, 0, none⟩ 1 1 [.string t] rfl rfl (news_at _ _ _ _ (by simp)) (by simp [Value.oneCell']) (by omega) (by simp only [maxLen]; omega) (by omega) (by simp; omega) (wo.heap.size + 1) (by simp) ?_; intro g2 cap2 w4 hown4 hg4 hat4 hlt4)
      have HO4 : Hid (w4.ownsRow w.heap.size 9 1 (.slice (some ⟨g2, 0, none⟩) (ts.length + 1) cap2) (ts ++ [t]).length (strs (ts ++ [t]))) := by show World.ownsRow _ _ _ _ _ _ _; rw [strs_snoc, List.length_append]; exact hown4
      have HF4 := Lib.hid ((HF.out.alloc hsz _).grown hg4 (by simp; omega) (fun a ha => (HOlt.out a ha).1))
      clear hown4 hg4 hat4 hlt4
      go_wp2
      go_ret
      exact ⟨_, ts ++ [t], rfl, HST.out, HO4.out, HF4.out⟩
end Go.Proofs.Ytohhcmcelofgeaa
