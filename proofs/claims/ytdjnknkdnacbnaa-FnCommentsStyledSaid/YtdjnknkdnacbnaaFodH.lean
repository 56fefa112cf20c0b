/-
  FnFodderEnsure says yes. Conditions: none.
-/
import Derived.Test.YtdjnknkdnacbnaaFodG
namespace Go.Proofs.Ytdjnknkdnacbnaa
open Go.RowKit
set_option linter.unusedVariables false
set_option linter.unusedSimpArgs false

theorem same_fod' (n m : Nat) (A A' : Option Addr) (c c' : Nat) (E : List El) (w : World) (hn : E.length = n) (hm' : E.length = m) (hm : E.length ≤ 200) (ht : ∀ (k : Nat) (e : El), E[k]? = some e → e.text.length ≤ 20) (h : Els cellsI w A E) (h' : Els cellsI w A' E) :
    Calls Try.prog 10 #[.slice A n c, .slice A' m c'] w fun e w' => e = .returned (.bool true) ∧ Below w.heap.size w w' := by
  subst hn; subst hm'; exact same_fod A A' c c' E w hm ht h h'

set_option maxRecDepth 100000 in
set_option maxHeartbeats 1000000 in
theorem walkEns (A : Option Addr) (c : Nat) (E : List El) (w : World) (hl : E.length ≤ c) (hcm : c ≤ 9223372036854775807) (h : Els cellsI w A E) :
    Calls Try.prog 4 #[.slice A E.length c] w fun e w' => e = .returned (.bool true) ∧ Below w.heap.size w w' := by
  have HR := Lib.hid h
  clear h
  go_enter Try.func4, Try.ntmps4
  go_wp2_with fail
  go_at_call 5
  refine (fits7 A c E w HR.out).mono ?_
  rintro e' w1 ⟨⟨b, rfl⟩, hb1⟩
  have HB1 := Lib.hid hb1
  have hs1 := hb1.size
  clear hb1
  cases b
  · go_wp2
    go_ret
    exact ⟨rfl, HB1.out⟩
  go_wp2_with fail
  go_at_call 12
  refine (fodder_any A c E w1 (HR.out.below HB1.out)).mono ?_
  rintro e' w2 ⟨⟨b, rfl, hok⟩, hb2⟩
  have HB2 := Lib.hid (HB1.out.trans (hb2.mono hs1))
  have hs2 := HB2.out.size
  have Hok := Lib.hid hok
  clear hb2 hok
  cases b
  · go_wp2
    go_ret
    exact ⟨rfl, HB2.out⟩
  have HE := Lib.hid (Hok.out rfl)
  clear Hok
  have hE1 := HE.out.1
  by_cases h0 : E.length = 0
  · have h0' : ((E.length : Int) == 0) = true := by simp [h0]
    have H0 := Lib.hid h0
    clear h0
    go_wp2
    go_ret
    exact ⟨rfl, HB2.out⟩
  have h0' : ((E.length : Int) == 0) = false := by rw [beq_eq_false_iff_ne]; omega
  obtain ⟨j, hj⟩ : ∃ j, E.length = j + 1 := ⟨E.length - 1, by omega⟩
  obtain ⟨e, he⟩ : ∃ e, E[j]? = some e := ⟨_, List.getElem?_eq_getElem (by omega)⟩
  obtain ⟨ad, u, hA, hb, hu, hc⟩ := HR.out j e he
  obtain ⟨g0, -, -, -⟩ := four_of hc
  have Hj := Lib.hid hj
  have He := Lib.hid he
  have hj9 : j ≤ 99 := by omega
  have G0 := Lib.hid g0
  have hlj : (0 : Int) < (E.length : Int) := by omega
  have z1 : (0 : Int) ≤ (E.length : Int) - 1 := by omega
  have z2 : (E.length : Int) - 1 < (E.length : Int) := by omega
  have z3 : ((E.length : Int) - 1).toNat = j := by omega
  clear hj he hu hc h0 g0
  subst hA
  by_cases hk : e.kind = 1
  · have Hk := Lib.hid hk
    clear hk
    go_wp2_with fail
    go_at_call 13
    refine (ens_more (some ad) c j E e w2 (HR.out.below HB2.out) HE.out Hj.out He.out Hk.out).mono ?_
    rintro e' w3 ⟨A3, c3, rfl, hc3, hels3, hb3⟩
    have HB3 := Lib.hid (HB2.out.trans (hb3.mono hs2))
    have hs3 := HB3.out.size
    have Hels3 := Lib.hid hels3
    have k0 := (HB3.out.cell (p := ad.add (j * 4)) (by rw [block_of_add]; exact hb)).trans G0.out
    rw [Hk.out] at k0
    clear hb3 hels3
    obtain ⟨ad3, u3, rfl, hb3, -, hc4⟩ := Hels3.out E.length endEl (by simp)
    obtain ⟨q0, -, -, -⟩ := four_of hc4
    clear hc4
    go_wp2_with fail
    go_at_call 14
    refine (clean_impl (j + 1) (some ad3) c3 E w3 Hels3.out ⟨by rw [List.length_append]; simp; omega, ?_⟩ (by rw [List.length_append, Hj.out]; rfl)).mono ?_
    · intro k e' he'
      rcases Nat.lt_or_ge k E.length with hkl | hkl
      · rw [List.getElem?_append_left hkl] at he'
        exact HE.out.2 k e' he'
      · rw [List.getElem?_append_right hkl] at he'
        have : k - E.length = 0 := by have := (List.getElem?_eq_some_iff.1 he').1; simp at this; omega
        rw [this] at he'
        simp at he'
        subst he'
        exact ⟨by decide, by decide, by decide, by decide, by decide, fun j s h => by simp [endEl] at h, .inl ⟨rfl, by decide⟩⟩
    rintro e' w4 ⟨rfl, hb4⟩
    have HB4 := Lib.hid (HB3.out.trans (hb4.mono hs3))
    have hs4 := HB4.out.size
    have HE4 := Lib.hid (Hels3.out.below hb4)
    have s34 := hb4.size
    have q0' := (hb4.cell (p := ad3.add (E.length * 4)) (by rw [block_of_add]; exact hb3)).trans q0
    have x1 : ((j : Int) + 1 + 1 == (E.length : Int) + 1) = true := by rw [beq_iff_eq]; have := Hj.out; omega
    have x2 : (0 : Int) ≤ (E.length : Int) := by omega
    have x3 : (E.length : Int) < (j : Int) + 1 + 1 := by have := Hj.out; omega
    have x4 : (E.length : Int) ≤ (c3 : Int) := by have := Hj.out; omega
    clear hb4 q0
    go_wp2_with fail
    go_at_call 10
    refine (same_fod' E.length E.length (some ad3) (some ad) c3 c E w4 rfl rfl (by omega) (texts_ok HE.out) (Els.prefix_ HE4.out) (HR.out.below HB4.out)).mono ?_
    rintro e' w5 ⟨rfl, hb5⟩
    have HB5 := Lib.hid (HB4.out.trans (hb5.mono hs4))
    have q1 := (hb5.cell (p := ad3.add (E.length * 4)) (by rw [block_of_add]; omega)).trans q0'
    clear hb5 q0'
    go_wp2
    go_ret
    exact ⟨rfl, HB5.out⟩
  · have Hk := Lib.hid hk
    clear hk
    go_wp2_with fail
    go_at_call 13
    refine (ens_same (some ad) c j E e w2 (HR.out.below HB2.out) HE.out Hj.out He.out (by simpa using Hk.out)).mono ?_
    rintro e' w3 ⟨A3, c3, rfl, hc3, hels3, hb3⟩
    have HB3 := Lib.hid (HB2.out.trans (hb3.mono hs2))
    have hs3 := HB3.out.size
    have Hels3 := Lib.hid hels3
    have k0 := (HB3.out.cell (p := ad.add (j * 4)) (by rw [block_of_add]; exact hb)).trans G0.out
    have hkf : (e.kind == 1) = false := by simpa using Hk.out
    clear hb3 hels3
    go_wp2_with fail
    go_at_call 10
    refine (same_fod' (j + 1) E.length A3 (some ad) c3 c E w3 Hj.out rfl (by omega) (texts_ok HE.out) Hels3.out (HR.out.below HB3.out)).mono ?_
    rintro e' w4 ⟨rfl, hb4⟩
    have HB4 := Lib.hid (HB3.out.trans (hb4.mono hs3))
    clear hb4
    go_wp2
    go_ret
    exact ⟨rfl, HB4.out⟩
end Go.Proofs.Ytdjnknkdnacbnaa
