/-
  FnFoundRight says yes. Conditions: the library's two tables lie there.
-/
import Derived.Test.YthmijakellfbiaaDoorStpN
import Derived.Test.YthmijakellfbiaaDoorStpM
namespace Go.Proofs.YthmijakellfbiaaDoor
open Go.RowKit
set_option linter.unusedVariables false
set_option linter.unusedSimpArgs false

def aggx (x : St) (A' A2 : Option Addr) (c' c2 : Nat) : Value := .agg #[.bool x.is_, .string x.rem, .slice A' x.names.length c', .slice A2 x.hides.length c2]
theorem splace_cons (s : ByteArray) (e : St) (L : List St) : (s ∈ e.names → splace s (e :: L) = some 0) ∧ (¬ s ∈ e.names → splace s (e :: L) = (splace s L).map (· + 1)) := by
  constructor
  · intro h
    unfold splace
    rw [if_pos h]
  · intro h
    show @ite _ (s ∈ e.names) (Classical.propDecidable _) (some 0) ((splace s L).map (· + 1)) = _
    rw [if_neg h]
theorem Sizes.snoc {E : List St} {x : St} (h : Sizes E) (hx : x.rem.size ≤ maxLen ∧ ∀ s ∈ x.names, s.size ≤ maxLen) : Sizes (E ++ [x]) := by
  intro k e he
  by_cases hk : k < E.length
  · rw [List.getElem?_append_left hk] at he
    exact h k e he
  · rw [List.getElem?_append_right (by omega)] at he
    have : k = E.length := by
      have := (List.getElem?_eq_some_iff.1 he).1
      simp at this
      omega
    subst this
    simp at he
    subst he
    exact hx
theorem FewE.left {E : List St} {x : St} (h : FewE (E ++ [x])) : FewE E := by
  refine ⟨by have := h.1; simp at this; omega, fun k e he => h.2 k e ?_⟩
  rw [List.getElem?_append_left (List.getElem?_eq_some_iff.1 he).1]
  exact he
def YesTo (w : World) (e : Ending) (w' : World) : Prop := e = .returned (.bool true) ∧ Below w.heap.size w w'

set_option maxRecDepth 100000 in
set_option maxHeartbeats 2000000 in
theorem walk_found (A : Option Addr) (c : Nat) (E : List St) (x : St) (u v : Value) (s : ByteArray) (w : World) (h : Sts cellsS w A E) (hc : E.length ≤ c) (hcm : c ≤ maxLen) (hZ : Sizes E) (hZx : x.rem.size ≤ maxLen ∧ ∀ s ∈ x.names, s.size ≤ maxLen) (hu : Lines w u x.names) (hv : Ints w v x.hides) (hl1 : x.names.length ≤ maxLen) (hs : s.size ≤ maxLen) (hT : Tabs w) :
    Calls Tryd.prog 3 #[.slice A E.length c, .agg #[.bool x.is_, .string x.rem, u, v], .string s] w (YesTo w) := by
  have HR := Lib.hid h
  have HZ := Lib.hid hZ
  have HZ2 := Lib.hid (hZ.snoc hZx)
  have HT := Lib.hid hT
  have HU := Lib.hid hu
  have HV := Lib.hid hv
  have HC := Lib.hid hc
  have HCM := Lib.hid hcm
  have HS := Lib.hid hs
  have HL1 := Lib.hid hl1
  obtain ⟨E2, hE2⟩ : ∃ E2, E2 = E ++ [x] := ⟨_, rfl⟩
  have HE2 := Lib.hid hE2
  have hE2l : E2.length = E.length + 1 := by rw [hE2]; simp
  have HE2l := Lib.hid hE2l
  rw [← hE2] at HZ2
  obtain ⟨A', c', rfl, -, -⟩ := hu
  obtain ⟨A2, c2, rfl, -, -⟩ := hv
  clear hE2 hE2l
  clear h hZ hT hZx hc hcm hs hl1
  by_cases hm : E.length ≤ 2147483647
  case neg =>
    go_enter Tryd.func3, Tryd.ntmps3
    go_wp2_with (go_at_call 5; refine (fits11_no A c E.length _ (by omega)).mono ?_; rintro e w' ⟨rfl, rfl⟩)
    go_ret
    exact ⟨rfl, (Below.refl _ _).alloc (Nat.le_refl _) _⟩
  case pos =>
    go_enter Tryd.func3, Tryd.ntmps3
    have HW0 : Hid (Below w.heap.size w (w.alloc (.cells #[.bool x.is_, .string x.rem, .slice A' x.names.length c', .slice A2 x.hides.length c2] 26))) := Lib.hid ((Below.refl _ _).alloc (Nat.le_refl _) _)
    go_wp2_with fail
    go_at_call 5
    refine (fits11 A c E _ (HR.out.below HW0.out)).mono ?_
    rintro e w1 ⟨⟨b1, rfl⟩, hb1⟩
    have hbx : Blk w1 w.heap.size 26 #[.bool x.is_, .string x.rem, .slice A' x.names.length c', .slice A2 x.hides.length c2] := (Blk.new_at rfl).later hb1
    have HBX := Lib.hid hbx
    have HB1 := Lib.hid (HW0.out.trans (hb1.mono (by simp)))
    have hs1 := HB1.out.size
    have x0 : w1.cell? ⟨w.heap.size, 0, none⟩ = some (.bool x.is_) := hbx.cell 0
    have x1 : w1.cell? ⟨w.heap.size, 1, none⟩ = some (.string x.rem) := hbx.cell 1
    have x2 : w1.cell? ⟨w.heap.size, 2, none⟩ = some (.slice A' x.names.length c') := hbx.cell 2
    have x3 : w1.cell? ⟨w.heap.size, 3, none⟩ = some (.slice A2 x.hides.length c2) := hbx.cell 3
    clear hb1 hbx
    cases b1
    · go_wp2
      go_ret
      exact ⟨rfl, HB1.out⟩
    go_wp2_with fail
    go_at_call 6
    refine (fits12 x _ _ w1 (HU.out.below HB1.out) (HV.out.below HB1.out)).mono ?_
    rintro e w2 ⟨⟨b2, rfl⟩, hb2⟩
    have HB2 := Lib.hid (HB1.out.trans (hb2.mono hs1))
    have HBX2 := Lib.hid (HBX.out.later hb2)
    have hs2 := HB2.out.size
    clear hb2 x0 x1 x2 x3 HBX
    have x0 : w2.cell? ⟨w.heap.size, 0, none⟩ = some (.bool x.is_) := HBX2.out.cell 0
    have x1 : w2.cell? ⟨w.heap.size, 1, none⟩ = some (.string x.rem) := HBX2.out.cell 1
    have x2 : w2.cell? ⟨w.heap.size, 2, none⟩ = some (.slice A' x.names.length c') := HBX2.out.cell 2
    have x3 : w2.cell? ⟨w.heap.size, 3, none⟩ = some (.slice A2 x.hides.length c2) := HBX2.out.cell 3
    cases b2
    · go_wp2
      go_ret
      exact ⟨rfl, HB2.out⟩
    by_cases hs0 : s.size ≤ 2147483647
    case neg =>
      have hd : decide ((2147483647 : Int) < (s.size : Nat)) = true := decide_eq_true (by omega)
      go_wp2
      go_ret
      exact ⟨rfl, HB2.out⟩
    have hd : decide ((2147483647 : Int) < (s.size : Nat)) = false := decide_eq_false (by omega)
    go_wp2_with fail
    go_at_call 7
    have hput := put_any A c 1 ⟨w2.heap.size, 0, none⟩ E x (.slice A' x.names.length c') (.slice A2 x.hides.length c2) (w2.alloc (.cells #[.bool x.is_, .string x.rem, .slice A' x.names.length c', .slice A2 x.hides.length c2] 26)) ((HR.out.below HB2.out).below ((Below.refl _ _).alloc (Nat.le_refl _) _)) HC.out HCM.out hm
      ⟨rfl, fun _ => ⟨_, rfl, by simp, news_at w2 _ [.bool x.is_, .string x.rem, .slice A' x.names.length c', .slice A2 x.hides.length c2] _ rfl⟩⟩ ((HU.out.below HB2.out).below ((Below.refl _ _).alloc (Nat.le_refl _) _)) ((HV.out.below HB2.out).below ((Below.refl _ _).alloc (Nat.le_refl _) _))
    rw [← HE2.out] at hput
    refine hput.mono ?_
    rintro e w3 ⟨A3, c3, rfl, -, hst3, hb3⟩
    have HB23 := Lib.hid (((Below.refl w2.heap.size w2).alloc (Nat.le_refl _) (.cells #[.bool x.is_, .string x.rem, .slice A' x.names.length c', .slice A2 x.hides.length c2] 26)).trans (hb3.mono (by simp)))
    have HB3 := Lib.hid (HB2.out.trans (HB23.out.mono hs2))
    have HST3 := Lib.hid hst3
    have hs3 := HB3.out.size
    clear hput hb3 hst3 x0 x1 x2 x3
    go_wp2_with fail
    go_at_call 8
    refine (few_any A3 c3 E2 w3 HST3.out (by have := HE2l.out; omega) HZ2.out (HT.out.below HB3.out)).mono ?_
    rintro e w4 ⟨b4, rfl, hf4, hb4⟩
    have HF4 := Lib.hid hf4
    have HB34 := Lib.hid hb4
    have HB4 := Lib.hid (HB3.out.trans (hb4.mono hs3))
    have hs4 := HB4.out.size
    clear hf4 hb4
    cases b4
    · go_wp2
      go_ret
      exact ⟨rfl, HB4.out⟩
    have HF := Lib.hid (HF4.out rfl)
    clear HF4
    go_wp2_with fail
    go_at_call 9
    refine (kept_any A3 c3 E2 w4 (by have := HE2l.out; omega) (HST3.out.below HB34.out)).mono ?_
    rintro e w' ⟨⟨b5, rfl, hk5⟩, rfl⟩
    have HK5 := Lib.hid hk5
    clear hk5
    cases b5
    · go_wp2
      go_ret
      exact ⟨rfl, HB4.out⟩
    have HK2 : Hid (KeptS E2) := ⟨HF.out, HK5.out rfl⟩
    have HK1 : Hid (KeptS E) := ⟨(HE2.out ▸ HF.out : FewE (E ++ [x])).left, fun k e he => HK5.out rfl k e (by rw [HE2.out, List.getElem?_append_left (List.getElem?_eq_some_iff.1 he).1]; exact he)⟩
    clear HK5 HF
    by_cases h0 : E.length = 0
    · have hz : ((E.length : Int) == 0) = true := by simpa using h0
      have HZ0 := Lib.hid h0
      clear h0
      go_wp2
      go_ret
      exact ⟨rfl, HB4.out⟩
    have hz : ((E.length : Int) == 0) = false := by simpa using h0
    have H0 := Lib.hid (show 0 < E.length by omega)
    clear h0
    go_wp2_with fail
    go_at_call 10
    have hr1 : splace s E2.reverse = splace s (x :: E.reverse) := by rw [HE2.out]; simp
    have HO := splace_cons s x E.reverse
    rw [← hr1] at HO
    clear hr1
    have hc1 := find0_any A c E s w4 (HR.out.below HB4.out) HK1.out H0.out
    have hc2 := fun w6 h6 => find0_any A3 c3 E2 s w6 h6 HK2.out (by have := HE2l.out; omega)
    generalize splace s E.reverse = o1 at HO hc1
    generalize splace s E2.reverse = o2 at HO hc2
    have HOO := Lib.hid HO
    have HC2 := Lib.hid hc2
    clear HO hc2
    refine hc1.mono ?_
    rintro e w5 ⟨n1, k1, rfl, hn1, hb1, hB5⟩
    have HN1 := Lib.hid hn1
    have HB45 := Lib.hid hB5
    have HB5 := Lib.hid (HB4.out.trans (hB5.mono hs4))
    have hs5 := HB5.out.size
    clear hn1 hB5 hc1
    go_wp2_with fail
    go_at_call 10
    refine (HC2.out w5 ((HST3.out.below HB34.out).below HB45.out)).mono ?_
    rintro e w6 ⟨n2, k2, rfl, hn2, hb2, hB6⟩
    have HN2 := Lib.hid hn2
    have HB26 := Lib.hid (HB23.out.trans ((HB34.out.trans ((HB45.out.trans (hB6.mono HB45.out.size)).mono HB34.out.size)).mono HB23.out.size))
    have HB6 := Lib.hid (HB5.out.trans (hB6.mono hs5))
    have x2 : w6.cell? ⟨w.heap.size, 2, none⟩ = some (.slice A' x.names.length c') := (HBX2.out.later HB26.out).cell 2
    obtain ⟨A7, c7, hA7, -, hr7⟩ := HU.out.below HB6.out
    injection hA7 with hA7 _ hc7
    subst hA7 hc7
    have HR7 := Lib.hid hr7
    clear hn2 hB6 hr7
    go_wp2_with fail
    go_at_call 11
    have HX12 : Hid (x.names.length ≤ 12) := (HK2.out.1.2 E.length x (by rw [HE2.out]; simp)).2.1
    refine (mentions_any A' c' x.names s w6 (by have := HX12.out; omega) HR7.out).mono ?_
    rintro e w' ⟨⟨b6, rfl, hb6⟩, rfl⟩
    cases b6
    · have hno : ¬ s ∈ x.names := fun h => by have := hb6.2 h; cases this
      obtain rfl := HOO.out.2 hno
      clear hb6 hno
      cases o1 with
      | none =>
        go_wp2
        go_ret
        exact ⟨rfl, HB6.out⟩
      | some j =>
        obtain rfl := HN1.out j rfl
        obtain rfl := HN2.out (j + 1) rfl
        have hj : j ≤ 1000 := by omega
        have hq : (((j + 1 : Nat) : Int) == (j : Int) + 1) = true := by simp
        clear hb1 hb2
        go_wp2
        go_ret
        exact ⟨by first | rfl | simp, HB6.out⟩
    · have hyes : s ∈ x.names := hb6.1 rfl
      obtain rfl := HOO.out.1 hyes
      obtain rfl := HN2.out 0 rfl
      clear hb6 hyes
      go_wp2
      go_ret
      exact ⟨by first | rfl | simp, HB6.out⟩
end Go.Proofs.YthmijakellfbiaaDoor
