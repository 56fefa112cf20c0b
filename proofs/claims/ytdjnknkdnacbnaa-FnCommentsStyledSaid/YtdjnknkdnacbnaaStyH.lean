/-
  FnCommentsStyled says yes. Conditions: none.
-/
import Derived.Test.YtdjnknkdnacbnaaStyG
import Derived.Test.YtdjnknkdnacbnaaFodH
import Derived.Test.YtdjnknkdnacbnaaFodO
namespace Go.Proofs.Ytdjnknkdnacbnaa
open Go.ChangeShapes Go.WideShapes Go.RowKit
set_option linter.unusedVariables false
set_option linter.unusedSimpArgs false

theorem spec_styled' (n : Nat) (A : Option Addr) (c : Nat) (st : Int) (E : List El) (w : World) (hn : E.length = n) (h : Els cellsI w A E) (hE : OkF E) : Calls Try.prog 11 #[.slice A n c, .int .i64 st] w (Styled w n (E.map (sty st))) := by
  subst hn; exact spec_styled A c st E w h hE

set_option maxRecDepth 100000 in
set_option maxHeartbeats 1000000 in
theorem walkSty (A : Option Addr) (c : Nat) (E : List El) (st : Int) (w : World) (hl : E.length ≤ c) (hF : FitE E) (h : Els cellsI w A E) :
    Calls Try.prog 3 #[.slice A E.length c, .int .i64 st] w fun e w' => e = .returned (.bool true) ∧ Below w.heap.size w w' := by
  have HR := Lib.hid h
  have HFit := Lib.hid hF
  clear h hF
  go_enter Try.func3, Try.ntmps3
  go_wp2_with fail
  go_at_call 5
  refine (fits7 A c E w HR.out).mono ?_
  rintro e' w1 ⟨⟨b, rfl⟩, hb1⟩
  have HB1 := Lib.hid hb1
  have hs1 := hb1.size
  clear hb1
  cases b
  · go_wp2
    go_ret
    exact ⟨rfl, HB1.out⟩
  go_wp2_with fail
  go_at_call 6
  refine (plain_any A c E w1 HFit.out (HR.out.below HB1.out)).mono ?_
  rintro e' w2 ⟨b, rfl, hok, hb2⟩
  have HB2 := Lib.hid (HB1.out.trans (hb2.mono hs1))
  have hs2 := HB2.out.size
  have Hok := Lib.hid hok
  clear hb2 hok
  cases b
  · go_wp2
    go_ret
    exact ⟨rfl, HB2.out⟩
  have HE := Lib.hid (Hok.out rfl)
  clear Hok
  have hE1 := HE.out.1.1
  go_wp2_with fail
  go_at_call 7
  refine (signed_any A c E w2 HE.out.1 HE.out.2 (HR.out.below HB2.out)).mono ?_
  rintro e' w3 ⟨b, rfl, hsg, hb3⟩
  have HB3 := Lib.hid (HB2.out.trans (hb3.mono hs2))
  have hs3 := HB3.out.size
  have Hsg := Lib.hid hsg
  clear hb3 hsg
  cases b
  · go_wp2
    go_ret
    exact ⟨rfl, HB3.out⟩
  have Hsg2 := Lib.hid (Hsg.out rfl)
  clear Hsg
  go_wp2_with fail
  go_at_call 8
  refine (bangs_any A c E w3 HE.out.1 (HR.out.below HB3.out)).mono ?_
  rintro e' w4 ⟨b, rfl, hbg, hb4⟩
  have HB4 := Lib.hid (HB3.out.trans (hb4.mono hs3))
  have hs4 := HB4.out.size
  have Hbg := Lib.hid hbg
  clear hb4 hbg
  cases b
  case true =>
    go_wp2
    go_ret
    exact ⟨rfl, HB4.out⟩
  have Hbg2 := Lib.hid (Hbg.out rfl)
  clear Hbg
  by_cases hst0 : st < 0
  · have d0 : decide (st < 0) = true := decide_eq_true hst0
    go_wp2
    go_ret
    exact ⟨rfl, HB4.out⟩
  by_cases hst2 : 2 < st
  · have d0 : decide (st < 0) = false := decide_eq_false hst0
    have d1 : decide (2 < st) = true := decide_eq_true hst2
    go_wp2
    go_ret
    exact ⟨rfl, HB4.out⟩
  have d0 : decide (st < 0) = false := decide_eq_false hst0
  have d1 : decide (2 < st) = false := decide_eq_false hst2
  go_wp2_with fail
  go_at_call 9
  refine (impl_styled A c E.length st (by omega) E w4 (HR.out.below HB4.out) rfl HE.out.1 HE.out.2 Hsg2.out Hbg2.out).mono ?_
  rintro e' w5 ⟨A5, c5, rfl, -, hels5, hb5⟩
  have HB5 := Lib.hid (HB4.out.trans (hb5.mono hs4))
  have hs5 := HB5.out.size
  have Hels5 := Lib.hid hels5
  clear hb5 hels5
  go_wp2_with fail
  go_at_call 11
  refine (spec_styled' E.length A c st E w5 rfl (HR.out.below HB5.out) HE.out.1).mono ?_
  rintro e' w6 ⟨A6, c6, rfl, hels6, hb6⟩
  have HB6 := Lib.hid (HB5.out.trans (hb6.mono hs5))
  have hs6 := HB6.out.size
  have Hels6 := Lib.hid hels6
  have Hels56 := Lib.hid (Hels5.out.below hb6)
  clear hb6 hels6
  go_wp2_with fail
  go_at_call 10
  refine (same_fod' E.length E.length A5 A6 c5 c6 (E.map (sty st)) w6 (by simp) (by simp) (by simp; omega) ?_ Hels56.out Hels6.out).mono ?_
  · intro j e he
    rw [List.getElem?_map] at he
    cases h : E[j]? with
    | none => rw [h] at he; cases he
    | some e0 =>
      rw [h] at he
      injection he with he
      subst he
      rw [sty_len]
      exact texts_ok HE.out.1 j e0 h
  rintro e' w7 ⟨rfl, hb7⟩
  have HB7 := Lib.hid (HB6.out.trans (hb7.mono hs6))
  clear hb7
  go_wp2
  go_ret
  exact ⟨rfl, HB7.out⟩

theorem walkStyArg {H : Type} {enc : TypeId × Value → H} {d : DataW H} {p : List MemPlace} (a : Option Addr) (n c : Nat) {W : World} (h : DataW.Trod enc Try.prog W 0 (fun _ => true) true 22 (.slice a n c) d p) (st : Int) (W' : World) (hW : W' = W) :
    Calls Try.prog 3 #[.slice a n c, .int .i64 st] W' fun e w' => e = .returned (.bool true) ∧ Below W'.heap.size W' w' := by
  subst hW
  obtain ⟨E, rfl, hl, hm, hels, hfit⟩ := els_arg h
  exact walkSty a c E st W' hl ⟨by omega, hfit⟩ hels
end Go.Proofs.Ytdjnknkdnacbnaa
