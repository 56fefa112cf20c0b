/-
  formatter.FodderText, impl.FodderText, the law. Conditions: none.
-/
import Derived.Test.YtdjnknkdnacbnaaDoorTxtH
import Derived.Test.YtdjnknkdnacbnaaDoorFodO
namespace Go.Proofs.YtdjnknkdnacbnaaDoor
open Go.ChangeShapes Go.WideShapes Go.RowKit
set_option linter.unusedVariables false
set_option linter.unusedSimpArgs false

theorem door_any (A : Option Addr) (c : Nat) (E : List El) (c0 sep fin : Bool) (w : World) (h : Els cellsA w A E) (hE : OkF E) (hF : FullE E) :
    Calls Tryd.prog 13 #[.slice A E.length c, .bool c0, .bool sep, .bool fin] w (TextIs w (textOf E c0 sep fin)) := by
  have HE := Lib.hid hE
  have HF := Lib.hid hF
  have HR := Lib.hid h
  clear h hE hF
  go_enter Tryd.func13, Tryd.ntmps13
  go_wp2_with fail
  go_at_call 19
  refine (fill_any w A c E c0 sep fin w.heap.size _ HR.out HE.out HF.out ((Below.refl _ _).alloc (Nat.le_refl _) _) ⟨_, LibA.zero_isBuffer (Nat.le_refl _) ⟨_, heap_alloc_new w _, rfl, rfl, rfl, fun i _ => rfl⟩⟩).mono ?_
  rintro e' w1 ⟨rfl, ho1, hb1⟩
  have HO1 := Lib.hid ho1
  have HB1 := Lib.hid hb1
  clear ho1 hb1
  go_wp2_with fail
  go_at_call 20
  refine (string_any w.heap.size w.heap.size _ w1 HO1.out).mono ?_
  rintro e' w2 ⟨rfl, n, rfl⟩
  go_wp2
  go_ret
  exact ⟨rfl, ⟨HB1.out.os, HB1.out.tape, HB1.out.output, HB1.out.size, HB1.out.block⟩⟩

theorem impl_any (A : Option Addr) (c : Nat) (E : List El) (c0 sep fin : Bool) (w : World) (h : Els cellsI w A E) (hE : OkF E) (hF : FullE E) :
    Calls Tryd.prog 6 #[.slice A E.length c, .bool c0, .bool sep, .bool fin] w fun e w' => e = .returned (.tuple #[.string ⟨(textOf E c0 sep fin).toArray⟩, .bool true]) ∧ Below w.heap.size w w' := by
  have hE1 := hE.1
  have HE := Lib.hid hE
  have HF := Lib.hid hF
  have HR := Lib.hid h
  clear h hE hF
  go_enter Tryd.func6, Tryd.ntmps6
  go_wp2_with fail
  go_at_call 11
  refine (make_A A c E w HR.out ⟨by omega, HE.out.2⟩).mono ?_
  rintro e' w1 ⟨v, rfl, hown, hb1⟩
  obtain ⟨A1, c1, rfl, -, hels1⟩ := hown.els cellsA_four
  have HB1 := Lib.hid hb1
  have HA1 := Lib.hid hels1
  have hs1 := hb1.size
  clear hown hels1 hb1
  go_wp2_with fail
  go_at_call 12
  refine (written_any A c E w1 (HR.out.below HB1.out) HE.out).mono ?_
  rintro e' w2 ⟨rfl, hb2⟩
  have HA2 := Lib.hid (HA1.out.below hb2)
  have HB2 := Lib.hid (HB1.out.trans (hb2.mono hs1))
  have hs2 := HB2.out.size
  clear hb2
  go_wp2_with fail
  go_at_call 13
  refine (door_any A1 c1 E c0 sep fin w2 HA2.out HE.out HF.out).mono ?_
  rintro e' w3 ⟨rfl, hb3⟩
  have HB3 := Lib.hid (HB2.out.trans (hb3.mono hs2))
  clear hb3
  go_wp2
  go_ret2
  exact ⟨rfl, HB3.out⟩

set_option maxRecDepth 100000 in
set_option maxHeartbeats 1000000 in
theorem walkTxt (A : Option Addr) (c : Nat) (E : List El) (c0 sep fin : Bool) (w : World) (hl : E.length ≤ c) (hF : FitE E) (h : Els cellsI w A E) :
    Calls Tryd.prog 3 #[.slice A E.length c, .bool c0, .bool sep, .bool fin] w fun e w' => e = .returned (.bool true) ∧ Below w.heap.size w w' := by
  have HR := Lib.hid h
  have HFit := Lib.hid hF
  clear h hF
  go_enter Tryd.func3, Tryd.ntmps3
  go_wp2_with fail
  go_at_call 4
  refine (fits7 A c E w HR.out).mono ?_
  rintro e' w1 ⟨⟨b, rfl⟩, hb1⟩
  have HB1 := Lib.hid hb1
  have hs1 := hb1.size
  clear hb1
  cases b
  · go_wp2
    go_ret
    exact ⟨rfl, HB1.out⟩
  go_wp2_with fail
  go_at_call 5
  refine (plain_any A c E w1 HFit.out (HR.out.below HB1.out)).mono ?_
  rintro e' w2 ⟨b, rfl, hok, hb2⟩
  have HB2 := Lib.hid (HB1.out.trans (hb2.mono hs1))
  have hs2 := HB2.out.size
  have Hok := Lib.hid hok
  clear hb2 hok
  cases b
  · go_wp2
    go_ret
    exact ⟨rfl, HB2.out⟩
  have HE := Lib.hid (Hok.out rfl)
  clear Hok
  obtain ⟨S, hS⟩ : ∃ S : ByteArray, ⟨(textOf E c0 sep fin).toArray⟩ = S := ⟨_, rfl⟩
  have HS := Lib.hid hS
  clear hS
  go_wp2_with fail
  go_at_call 6
  refine (impl_any A c E c0 sep fin w2 (HR.out.below HB2.out) HE.out.1 HE.out.2).mono ?_
  rintro e' w3 ⟨he, hb3⟩
  rw [HS.out] at he
  subst he
  have HB3 := Lib.hid (HB2.out.trans (hb3.mono hs2))
  have hs3 := HB3.out.size
  clear hb3
  go_wp2_with fail
  go_at_call 7
  refine (spec_any A c E c0 sep fin w3 (HR.out.below HB3.out) HE.out.1 HE.out.2).mono ?_
  rintro e' w4 ⟨he, hb4⟩
  rw [HS.out] at he
  subst he
  have HB4 := Lib.hid (HB3.out.trans (hb4.mono hs3))
  clear hb4
  go_wp2
  go_ret
  exact ⟨by simp, HB4.out⟩

theorem walkTxtArg {H : Type} {enc : TypeId × Value → H} {d : DataW H} {p : List MemPlace} (a : Option Addr) (n c : Nat) {W : World} (h : DataW.Trod enc Tryd.prog W 0 (fun _ => true) true 22 (.slice a n c) d p) (c0 sep fin : Bool) (W' : World) (hW : W' = W) :
    Calls Tryd.prog 3 #[.slice a n c, .bool c0, .bool sep, .bool fin] W' fun e w' => e = .returned (.bool true) ∧ Below W'.heap.size W' w' := by
  subst hW
  obtain ⟨E, rfl, hl, hm, hels, hfit⟩ := els_arg h
  exact walkTxt a c E c0 sep fin W' hl ⟨by omega, hfit⟩ hels
end Go.Proofs.YtdjnknkdnacbnaaDoor
