/-
  Fodder: impl.FodderEnsure and impl.FodderClean. Conditions: none.
-/
import Derived.Test.YtdjnknkdnacbnaaFodF
namespace Go.Proofs.Ytdjnknkdnacbnaa
open Go.RowKit
set_option linter.unusedVariables false
set_option linter.unusedSimpArgs false

def Gives (w : World) (n : Nat) (E : List El) (e : Ending) (w' : World) : Prop := ∃ A' c', e = .returned (.tuple #[.slice A' n c', .bool true]) ∧ n ≤ c' ∧ Els cellsI w' A' E ∧ Below w.heap.size w w'

theorem made_at {t : TypeId} {pk : El → Value → List Value} (h4 : ∀ e u, (pk e u).length = 4) {w : World} {base n : Nat} {v : Value} {E : List El} (h : OwnF t pk w base v E) (hn : E.length = n) :
    ∃ A c, v = .slice A n c ∧ n ≤ c ∧ Els pk w A E := by
  subst hn
  exact h.els h4
theorem make_I' (n : Nat) (A : Option Addr) (c : Nat) (E : List El) (w : World) (hn : E.length = n) (h : Els cellsA w A E) (hE : n ≤ 200 ∧ ∀ (k : Nat) (e : El), E[k]? = some e → e.text.length ≤ 20) :
    Calls Try.prog 19 #[.slice A n c] w fun e w' => (∃ A' c', e = .returned (.slice A' n c') ∧ n ≤ c' ∧ Els cellsI w' A' E) ∧ Below w.heap.size w w' := by
  subst hn
  refine (make_I A c E w h hE).mono ?_
  rintro e w' ⟨v, rfl, ho, hb⟩
  obtain ⟨A', c', rfl, hc, he⟩ := ho.els cellsI_four
  exact ⟨⟨A', c', rfl, hc, he⟩, hb⟩
theorem texts_ok {E : List El} (h : OkF E) : ∀ (k : Nat) (e : El), E[k]? = some e → e.text.length ≤ 20 := fun k e he => (h.2 k e he).2.2.2.2.1

set_option maxRecDepth 100000 in
theorem ens_same (A : Option Addr) (c j : Nat) (E : List El) (e : El) (w : World) (h : Els cellsI w A E) (hE : OkF E) (hn : E.length = j + 1) (he : E[j]? = some e) (hk : (e.kind == 1) = false) :
    Calls Try.prog 13 #[.slice A E.length c] w (Gives w (j + 1) E) := by
  have Hn := Lib.hid hn
  have He := Lib.hid he
  have Hk := Lib.hid hk
  have HE := Lib.hid hE
  have HR := Lib.hid h
  have hj : j ≤ 200 := by have := hE.1; omega
  have hE1 := hE.1
  have hj9 : j ≤ 99 := by omega
  clear hn he hk hE h
  go_enter Try.func13, Try.ntmps13
  go_wp2_with fail
  go_at_call 17
  refine (make_A A c E w HR.out ⟨by omega, HE.out.2⟩).mono ?_
  rintro e' w1 ⟨v, rfl, ho, hb1⟩
  obtain ⟨A1, c1, rfl, -, hels⟩ := made_at cellsA_four ho Hn.out
  have Hels := Lib.hid hels
  have HB1 := Lib.hid hb1
  have hs1 := hb1.size
  clear ho hels hb1
  go_wp2_with fail
  go_at_call 24
  refine (ens_clean w1.heap.size A1 c1 j E e _ (by simp) (Hels.out.below ((Below.refl _ _).alloc (Nat.le_refl _) _)) He.out hj Hk.out).mono ?_
  rintro e' w2 ⟨rfl, rfl⟩
  go_wp2_with fail
  go_at_call 19
  refine (make_I' (j + 1) A1 c1 E _ Hn.out (Hels.out.below ((Below.refl _ _).alloc (Nat.le_refl _) _)) ⟨by omega, texts_ok HE.out⟩).mono ?_
  rintro e' w2 ⟨⟨A2, c2, rfl, hc2, hels2⟩, hb2⟩
  have HX := Lib.hid (And.intro hc2 (And.intro hels2 (HB1.out.trans ((((Below.refl _ _).alloc (Nat.le_refl _) _).trans (hb2.mono (by simp))).mono hs1))))
  clear hels2 hb2 hc2
  go_wp2
  go_ret2
  exact ⟨A2, c2, rfl, HX.out.1, HX.out.2.1, HX.out.2.2⟩

def endEl : El := ⟨0, 0, 0, []⟩
set_option maxRecDepth 100000 in
theorem ens_more (A : Option Addr) (c j : Nat) (E : List El) (e : El) (w : World) (h : Els cellsI w A E) (hE : OkF E) (hn : E.length = j + 1) (he : E[j]? = some e) (hk : e.kind = 1) :
    Calls Try.prog 13 #[.slice A E.length c] w (Gives w (j + 1 + 1) (E ++ [endEl])) := by
  have Hn := Lib.hid hn
  have He := Lib.hid he
  have Hk := Lib.hid hk
  have HE := Lib.hid hE
  have HR := Lib.hid h
  have hj : j ≤ 200 := by have := hE.1; omega
  have hE1 := hE.1
  have hj9 : j ≤ 99 := by omega
  clear hn he hk hE h
  go_enter Try.func13, Try.ntmps13
  go_wp2_with fail
  go_at_call 17
  refine (make_A A c E w HR.out ⟨by omega, HE.out.2⟩).mono ?_
  rintro e' w1 ⟨v, rfl, ho, hb1⟩
  obtain ⟨A1, c1, rfl, -, hels⟩ := made_at cellsA_four ho Hn.out
  obtain ⟨us, ho1, hcs⟩ := ho
  rw [Hn.out] at ho1
  have Hels := Lib.hid hels
  have HB1 := Lib.hid hb1
  have hs1 := hb1.size
  have Ho := Lib.hid ho1
  have Hcs := Lib.hid hcs
  have hlt := Lib.hid ho1.lt
  clear ho1 hcs hels hb1
  go_wp2_with fail
  go_at_call 24
  refine (ens_end w1.heap.size w.heap.size A1 c1 j E e (flat cellsA E us) _ (by simp) (by simp) (Ho.out.alloc _) (fun h => by have := (hlt.out _ h).2; omega) (Hels.out.below ((Below.refl _ _).alloc (Nat.le_refl _) _)) He.out hj Hk.out (by simp; omega)).mono ?_
  rintro e' w2 ⟨rfl, v', g, k1, k2, k3, k4, k5, k6⟩
  simp at k4
  have hown : OwnF 60 cellsA w2 w.heap.size v' (E ++ [endEl]) := by
    refine ⟨us ++ [.slice (some ⟨g, 0, none⟩) 0 0], ?_, ?_⟩
    · rw [flat_snoc cellsA Hcs.out.1, List.length_append, Hn.out]
      exact k2
    · have hc1 := Hcs.out.below ((Below.refl _ _).alloc (Nat.le_refl _) (.cells #[.slice A1 (j + 1) c1] 38))
      have hc2 : Coms w2 w.heap.size us E := ⟨hc1.1, fun k u e' hu he' => ownsRow_but (hc1.2.1 k u e' hu he') k6 (fun a ha hP => by
          have hlt1 := Hcs.out.lt hu ha
          rcases hP with h | h
          · omega
          · have hk := blk_ne (Hcs.out.2.1 k u e' hu he') Ho.out (by decide)
            rw [ha, h] at hk
            simp at hk), hc1.2.2⟩
      refine hc2.snoc k5 fun k u a b hu ha hb => ?_
      have hlt1 := Hcs.out.lt hu ha
      simp [Value.ownBlock] at hb
      omega
  have hB : Below w.heap.size w w2 := Below.then_but (HB1.out.alloc hs1 _) k6 (fun i hi hP => by
    rcases hP with h | h
    · omega
    · have := (hlt.out _ h).1
      omega) (by simp; omega)
  obtain ⟨A2, c2, rfl, -, hels2⟩ := made_at (n := j + 1 + 1) cellsA_four hown (by rw [List.length_append, Hn.out]; rfl)
  have Hels2 := Lib.hid hels2
  have HB2 := Lib.hid hB
  have hs2 := hB.size
  clear k2 k3 k4 k5 k6 hown hels2 hB
  go_wp2_with fail
  go_at_call 19
  refine (make_I' (j + 1 + 1) A2 c2 (E ++ [endEl]) _ (by rw [List.length_append, Hn.out]; rfl) Hels2.out ⟨by omega, ?_⟩).mono ?_
  · intro k e' he'
    rcases Nat.lt_or_ge k E.length with hkl | hkl
    · rw [List.getElem?_append_left hkl] at he'
      exact texts_ok HE.out k e' he'
    · rw [List.getElem?_append_right hkl] at he'
      have : k - E.length = 0 := by have := (List.getElem?_eq_some_iff.1 he').1; simp at this; omega
      rw [this] at he'
      simp at he'
      subst he'
      simp [endEl]
  rintro e' w3 ⟨⟨A3, c3, rfl, hc3, hels3⟩, hb3⟩
  have HX := Lib.hid (And.intro hc3 (And.intro hels3 (HB2.out.trans (hb3.mono hs2))))
  clear hels3 hb3 hc3
  go_wp2
  go_ret2
  exact ⟨A3, c3, rfl, HX.out.1, HX.out.2.1, HX.out.2.2⟩

theorem clean_impl (n : Nat) (A : Option Addr) (c : Nat) (E : List El) (w : World) (h : Els cellsI w A (E ++ [endEl])) (hE : (E ++ [endEl]).length ≤ 200 ∧ ∀ (k : Nat) (e : El), (E ++ [endEl])[k]? = some e → OkEl e) (hn : (E ++ [endEl]).length = n + 1) :
    Calls Try.prog 14 #[.slice A (n + 1) c] w fun e w' => e = .returned (.tuple #[.bool true, .bool true]) ∧ Below w.heap.size w w' := by
  have hj : n ≤ 200 := by have := hE.1; omega
  have hq : (E ++ [endEl])[n]? = some endEl := by
    have : n = E.length := by simpa using hn.symm
    subst this
    simp
  have hm : Calls Try.prog 17 #[.slice A (n + 1) c] w (MadeA w (E ++ [endEl])) := by
    have := make_A A c (E ++ [endEl]) w h hE
    rwa [hn] at this
  have Hn := Lib.hid hn
  have Hq := Lib.hid hq
  have Hm := Lib.hid hm
  clear hn hq hm h hE
  go_enter Try.func14, Try.ntmps14
  go_wp2_with fail
  go_at_call 17
  refine Calls.mono Hm.out ?_
  rintro e' w1 ⟨v, rfl, ho, hb1⟩
  obtain ⟨A1, c1, rfl, -, hels⟩ := made_at cellsA_four ho Hn.out
  have Hels := Lib.hid hels
  have HB1 := Lib.hid hb1
  clear ho hels hb1
  go_wp2_with fail
  go_at_call 25
  refine (clean_yes A1 c1 n (E ++ [endEl]) endEl w1 Hels.out Hq.out hj rfl).mono ?_
  rintro e' w2 ⟨rfl, rfl⟩
  go_wp2
  go_ret2
  exact ⟨rfl, HB1.out⟩
end Go.Proofs.Ytdjnknkdnacbnaa
