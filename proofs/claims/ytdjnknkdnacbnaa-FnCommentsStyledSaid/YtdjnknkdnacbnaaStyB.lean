/-
  Lists of elements whose comments lie wherever; spec.CommentsStyled. Conditions: none.
-/
import Derived.Test.YtdjnknkdnacbnaaStyA
import Derived.Test.YtdjnknkdnacbnaaFodD
namespace Go.Proofs.Ytdjnknkdnacbnaa
open Go.RowKit
set_option linter.unusedVariables false
set_option linter.unusedSimpArgs false

theorem news_at (w : World) (n : Nat) (cs : List Value) (t : TypeId) (hn : w.heap.size = n) : ∀ (j : Nat) (u : Value), cs[j]? = some u → (w.alloc (.cells cs.toArray t)).cell? ((⟨n, 0, none⟩ : Addr).add j) = some u := by
  subst hn
  intro j u h
  exact World.news_of_block (cs := cs.toArray) (t := t) (fr := (0, 0)) (heap_alloc_new w _) j u (by simpa using h)
theorem own_one (W : World) (n base : Nat) {s : ByteArray} (hb : base ≤ W.heap.size) (hn : W.heap.size = n) : (W.alloc (.cells #[.string s] 9)).ownsRow base 9 1 (.slice (some ⟨n, 0, none⟩) 1 1) 1 [.string s] := by
  subst hn
  exact World.ownsRow_lit W #[.string s] 1 hb (by simp [maxLen]) rfl
/-- Comments that came in, or a row of the call's own. -/
def Lin (w : World) (base : Nat) (u : Value) (ss : List ByteArray) : Prop :=
  (∃ A c, u = .slice A ss.length c ∧ ss.length ≤ c ∧ Reads w base 1 A ss.length (strs ss)) ∨ w.ownsRow base 9 1 u ss.length (strs ss)
def Lins (w : World) (base : Nat) (us : List Value) (E : List El) : Prop :=
  us.length = E.length ∧ ∀ (k : Nat) (u : Value) (e : El), us[k]? = some u → E[k]? = some e → Lin w base u e.text

theorem Lin.below {w w' : World} {base : Nat} {u : Value} {ss : List ByteArray} (h : Lin w base u ss) (hb : Below w.heap.size w w') (hB : base ≤ w.heap.size) : Lin w' base u ss := by
  rcases h with ⟨A, c, rfl, hc, hr⟩ | h
  · exact .inl ⟨A, c, rfl, hc, hr.below (hb.mono hB)⟩
  · exact .inr (ownsRow_below h hb)
theorem Lin.grown {t : TypeId} (ht : (9 : TypeId) ≠ t) {w w' : World} {base size n : Nat} {u v : Value} {ss : List ByteArray} {xs : List Value} (h : Lin w base u ss) (ho : w.ownsRow base t size v n xs) (hg : w.grownBy w' v.ownBlock) (hB : base ≤ w.heap.size) : Lin w' base u ss := by
  rcases h with ⟨A, c, rfl, hc, hr⟩ | h
  · exact .inl ⟨A, c, rfl, hc, hr.grown hg hB (fun g hg' => (ho.lt g hg').1)⟩
  · exact .inr (h.kept hg (blk_ne h ho ht))
theorem Lin.lines {w : World} {base : Nat} {u : Value} {ss : List ByteArray} (h : Lin w base u ss) (hB : base ≤ w.heap.size) : Lines w u ss := by
  rcases h with ⟨A, c, rfl, hc, hr⟩ | h
  · exact ⟨A, c, rfl, hc, hr.more hB⟩
  · exact Lines.of_own h
theorem Lins.nil (w : World) (base : Nat) : Lins w base [] [] := ⟨rfl, fun k u e h => by simp at h⟩

theorem lin_step {t : TypeId} {pk : El → Value → List Value} (ht : (9 : TypeId) ≠ t) {wr W4 W5 : World} {base k : Nat} {E : List El} {e : El} {us : List Value} {out out' u : Value}
    (ho : wr.ownsRow base t 4 out k (flat pk (E.take k) us)) (hc : Lins wr base us (E.take k)) (he : E[k]? = some e) (hB : base ≤ wr.heap.size)
    (hb : Below wr.heap.size wr W4) (hu : Lin W4 base u e.text)
    (ho' : W5.ownsRow base t 4 out' (k + 1) (flat pk (E.take k) us ++ pk e u)) (hg : W4.grownBy W5 out.ownBlock) :
    ∃ us', W5.ownsRow base t 4 out' (k + 1) (flat pk (E.take (k + 1)) us') ∧ Lins W5 base us' (E.take (k + 1)) := by
  have hk : k < E.length := (List.getElem?_eq_some_iff.1 he).1
  have hE : E.take (k + 1) = E.take k ++ [e] := by
    rw [List.take_succ_eq_append_getElem hk]
    have := (List.getElem?_eq_some_iff.1 he).2
    rw [this]
  have ho4 : W4.ownsRow base t 4 out k (flat pk (E.take k) us) := ownsRow_below ho hb
  have hs := hb.size
  refine ⟨us ++ [u], ?_, ?_⟩
  · rw [hE, flat_snoc pk hc.1]
    exact ho'
  · rw [hE]
    refine ⟨by simp [hc.1], fun j v e' hv he' => ?_⟩
    rcases Nat.lt_trichotomy j us.length with c | c | c
    · rw [List.getElem?_append_left c] at hv
      rw [List.getElem?_append_left (by rw [← hc.1]; exact c)] at he'
      exact ((hc.2 j v e' hv he').below hb hB).grown ht ho4 hg (by omega)
    · subst c
      simp at hv
      subst hv
      rw [hc.1] at he'
      simp at he'
      subst he'
      exact hu.grown ht ho4 hg (by omega)
    · rw [List.getElem?_eq_none (by simp; omega)] at hv; cases hv

theorem lins_els {t : TypeId} {pk : El → Value → List Value} (h4 : ∀ e u, (pk e u).length = 4) {w : World} {base : Nat} {v : Value} {E : List El} {us : List Value} (h1 : w.ownsRow base t 4 v E.length (flat pk E us)) (h2 : Lins w base us E) (hB : base ≤ w.heap.size) :
    ∃ A c, v = .slice A E.length c ∧ E.length ≤ c ∧ Els pk w A E := by
  rcases h1.2 with ⟨rfl, h0⟩ | ⟨g, cap, cur, rfl, _, _, hc, _⟩
  · have : E = [] := List.eq_nil_of_length_eq_zero h0
    subst this
    exact ⟨none, 0, rfl, Nat.zero_le _, Els.nil pk w none⟩
  · refine ⟨_, _, rfl, hc, fun k e he => ?_⟩
    have hk : k < us.length := by have := (List.getElem?_eq_some_iff.1 he).1; have := h2.1; omega
    have hu : us[k]? = some us[k] := List.getElem?_eq_getElem hk
    refine ⟨_, us[k], rfl, (h1.lt g rfl).2, (h2.2 k _ e hu he).lines hB, fun j x hx => ?_⟩
    have := h1.cells (g := g) rfl (k * 4 + j) x (flat_at h4 h2.1 he hu hx)
    rw [add_of_add]
    exact this

def sty (st : Int) (e : El) : El := if e.text.length = 1 then ⟨e.kind, e.blanks, e.indent, e.text.map (stl st)⟩ else e

def Styled (w : World) (n : Nat) (E : List El) (e : Ending) (w' : World) : Prop := ∃ A c, e = .returned (.slice A n c) ∧ Els cellsI w' A E ∧ Below w.heap.size w w'

set_option maxRecDepth 100000 in
set_option maxHeartbeats 800000 in
theorem spec_styled (A : Option Addr) (c : Nat) (st : Int) (E : List El) (w : World) (h : Els cellsI w A E) (hE : OkF E) : Calls Try.prog 11 #[.slice A E.length c, .int .i64 st] w (Styled w E.length (E.map (sty st))) := by
  obtain ⟨i32, hi32, hz32, hz32', hz32''⟩ := info_parts info_elI
  have hE1 := hE.1
  have HE := Lib.hid hE.2
  clear hE
  have HR := Lib.hid h
  clear h
  go_enter Try.func11, Try.ntmps11
  go_wp2
  go_loopw [5, 6] (fun out i wr => ∃ k : Nat, k ≤ E.length ∧ i = .int .i64 k ∧ (∃ us, wr.ownsRow w.heap.size 32 4 out k (flat cellsI ((E.map (sty st)).take k) us) ∧ Lins wr w.heap.size us ((E.map (sty st)).take k)) ∧ Below w.heap.size w wr) (fun _ i _ => E.length - (intOf i).toNat)
  case atStart => exact ⟨0, by omega, rfl, ⟨[], World.ownsRow_nil _ _ _ _, Lins.nil _ _⟩, Below.refl _ _⟩
  case round =>
    obtain ⟨k, hk, rfl, ⟨us, ho, hcs⟩, hbw⟩ := hrel
    by_cases hlt : k < E.length
    · obtain ⟨e, he⟩ : ∃ e, E[k]? = some e := ⟨_, List.getElem?_eq_getElem hlt⟩
      have he' : (E.map (sty st))[k]? = some (sty st e) := by rw [List.getElem?_map, he]; rfl
      obtain ⟨ad, u, rfl, hb, hu, hc0⟩ := HR.out k e he
      have hc : ∀ (j : Nat) (v : Value), (cellsI e u)[j]? = some v → wr.cell? ((ad.add (k * 4)).add j) = some v := fun j v hj => (hbw.cell (by rw [block_of_add, block_of_add]; exact hb)).trans (hc0 j v hj)
      obtain ⟨h0, h1, h2, h3⟩ := four_of hc
      clear hc0
      have hok := HE.out k e he
      have Hst := Lib.hid (fun W4 W5 u' out' => lin_step (pk := cellsI) (W4 := W4) (W5 := W5) (u := u') (out' := out') (by decide : (9 : TypeId) ≠ 32) ho hcs he' hbw.size)
      obtain ⟨K, B, I, ss⟩ := e
      have hss : ss.length ≤ 20 := hok.2.2.2.2.1
      have Hsz := Lib.hid hok.2.2.2.2.2.1
      simp only at h0 h1 h2 h3 hu
      obtain ⟨A', c', rfl, hlc, hr⟩ := hu
      have Hr := Lib.hid (hr.below hbw)
      have hsz := hbw.size
      have Ho := Lib.hid ho
      have hog := Lib.hid ho.lt
      clear he he' hc hr hok ho hcs
      by_cases h1' : ss.length = 1
      · obtain ⟨s, rfl⟩ : ∃ s, ss = [s] := List.length_eq_one_iff.1 h1'
        obtain ⟨ad', s', rfl, hb', hs', hc'⟩ := Hr.out.line (k := 0) (by simp)
        simp at hs'
        subst hs'
        have hs2 : s.size ≤ 200 := Hsz.out 0 s rfl
        have hc2 : wr.cell? ad' = some (.string s) := hc'
        have hc3 := (World.cell?_alloc_lt wr (.cells #[.int .i64 K, .int .i64 B, .int .i64 I, .slice (some ad') 1 c'] 32) ad' (by omega)).trans hc2
        clear h1' hc' hc2
        go_wp2_with fail
        go_at_call 21
        refine (styled_any s st _ hs2).mono ?_
        rintro e' w' ⟨rfl, rfl⟩
        go_wp2_with (at_builtin; refine wpList_append_lies _ rfl (.tmp 30) (.tmp 32) _ rfl w.heap.size 32 i32 _ 4 48 Try.underlying22 hi32 hz32 hz32' hz32'' rfl (by omega) u5 k (flat cellsI ((E.map (sty st)).take k) us) rfl (((Ho.out.alloc _).alloc _).alloc _) ⟨wr.heap.size + 1 + 1, 0, none⟩ 1 1 [.int .i64 K, .int .i64 B, .int .i64 I, .slice (some ⟨wr.heap.size + 1, 0, none⟩) 1 1] rfl rfl (news_at _ _ _ _ (by simp)) (by simp [Value.oneCell']) (by omega) (by simp only [maxLen]; omega) (by omega) (by simp; omega) (wr.heap.size + 1 + 1 + 1) (by simp) ?_; intro g2 cap2 w2 hown2 hg2 hat2 hlt2)
        have hB := Lib.hid (hbw.trans ((((((Below.refl _ _).alloc (Nat.le_refl _) _).alloc (by simp) _).alloc (by simp; omega) _).mono hsz).grown hg2 (by simp; omega) (fun a ha => (hog.out a ha).1)))
        have HN := Lib.hid (Hst.out _ w2 _ _ (((((Below.refl _ _).alloc (Nat.le_refl _) _).alloc (by simp) _).alloc (by simp; omega) _)) (by
            show Lin _ _ _ [stl st s]
            exact .inr (((own_one _ _ _ (by simp; omega) (by simp)).alloc _))) hown2 hg2)
        clear Hst Ho hog hown2 hg2 hat2
        go_wp2
        go_roundw
        case rel => exact ⟨k + 1, by omega, by go_num, HN.out, hB.out⟩
        case measure => simp [intOf]; omega
      · have d1 : ((ss.length : Int) == 1) = false := by rw [beq_eq_false_iff_ne]; omega
        have h1' : ¬ ss.length = 1 := h1'
        have H1 := Lib.hid h1'
        clear h1'
        go_wp2_with (at_builtin; refine wpList_append_lies _ rfl (.tmp 30) (.tmp 32) _ rfl w.heap.size 32 i32 _ 4 48 Try.underlying22 hi32 hz32 hz32' hz32'' rfl (by omega) u5 k (flat cellsI ((E.map (sty st)).take k) us) rfl ((Ho.out.alloc _).alloc _) ⟨wr.heap.size + 1, 0, none⟩ 1 1 [.int .i64 K, .int .i64 B, .int .i64 I, .slice A' ss.length c'] rfl rfl (news_at _ _ _ _ (by simp)) (by simp [Value.oneCell']) (by omega) (by simp only [maxLen]; omega) (by omega) (by simp; omega) (wr.heap.size + 1 + 1) (by simp) ?_; intro g2 cap2 w2 hown2 hg2 hat2 hlt2)
        have hB := Lib.hid (hbw.trans (((((Below.refl _ _).alloc (Nat.le_refl _) _).alloc (by simp) _).mono hsz).grown hg2 (by simp; omega) (fun a ha => (hog.out a ha).1)))
        have HN := Lib.hid (Hst.out _ w2 _ _ ((((Below.refl _ _).alloc (Nat.le_refl _) _).alloc (by simp) _)) (by
            have e1 : sty st ⟨K, B, I, ss⟩ = ⟨K, B, I, ss⟩ := if_neg H1.out
            rw [e1]
            exact .inl ⟨A', c', rfl, hlc, (Hr.out.alloc (by omega) _).alloc (by simp; omega) _⟩) (by
            have e1 : sty st ⟨K, B, I, ss⟩ = ⟨K, B, I, ss⟩ := if_neg H1.out
            rw [e1]
            exact hown2) hg2)
        clear Hst Ho hog hown2 hg2 hat2
        go_wp2
        go_roundw
        case rel => exact ⟨k + 1, by omega, by go_num, HN.out, hB.out⟩
        case measure => simp [intOf]; omega
    · obtain rfl : k = E.length := by omega
      have e1 : (E.map (sty st)).take E.length = E.map (sty st) := List.take_of_length_le (by simp)
      rw [e1] at ho hcs
      have e2 : (E.map (sty st)).length = E.length := List.length_map ..
      obtain ⟨A2, c2, rfl, -, hels⟩ := lins_els cellsI_four (by rw [e2]; exact ho) hcs hbw.size
      rw [e2]
      have HX := Lib.hid hels
      have HB := Lib.hid hbw
      clear ho hcs hels hbw e1 e2
      go_wp2
      go_ret
      exact ⟨A2, c2, rfl, HX.out, HB.out⟩
end Go.Proofs.Ytdjnknkdnacbnaa
