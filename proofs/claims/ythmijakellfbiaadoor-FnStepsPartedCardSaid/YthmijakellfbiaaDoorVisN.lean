/-
  Few steps, names standing once. Conditions: the library's two tables lie there.
-/
import Derived.Test.YthmijakellfbiaaDoorVisQ
import Derived.Test.YthmijakellfbiaaDoorStpN
namespace Go.Proofs.YthmijakellfbiaaDoor
open Go.RowKit
set_option linter.unusedVariables false
set_option linter.unusedSimpArgs false

def FewTo2 (w : World) (E : List St) (e : Ending) (w' : World) : Prop := ∃ b, e = .returned (.bool b) ∧ (b = true → FewE E ∧ ∀ (k : Nat) (e : St), E[k]? = some e → e.names.Nodup) ∧ Below w.heap.size w w'
set_option maxRecDepth 100000 in
set_option maxHeartbeats 1000000 in
theorem few2_any (A : Option Addr) (c : Nat) (E : List St) (w : World) (h : Sts cellsS w A E) (hm : E.length ≤ 4611686018427387904) (hZ : Sizes E) (hT : Tabs w) : Calls Tryd.prog 8 #[.slice A E.length c] w (FewTo2 w E) := by
  have HR := Lib.hid h
  have HZ := Lib.hid hZ
  have HT := Lib.hid hT
  clear h hZ hT
  go_enter Tryd.func8, Tryd.ntmps8
  go_wp2
  go_loopw [3] (fun i wr => ∃ k : Nat, k ≤ E.length ∧ i = .int .i64 k ∧ (∀ (j : Nat) (e : St), j < k → E[j]? = some e → e.names.length ≤ 12) ∧ wr = w) (fun i _ => E.length - (intOf i).toNat)
  case atStart => exact ⟨0, by omega, rfl, fun j e h => absurd h (by omega), rfl⟩
  case round =>
    obtain ⟨k, hk, rfl, hall, rfl⟩ := hrel
    have HA := Lib.hid hall
    clear hall
    by_cases hlt : k < E.length
    · obtain ⟨e, he⟩ : ∃ e, E[k]? = some e := ⟨_, List.getElem?_eq_getElem hlt⟩
      obtain ⟨ad, u, v, rfl, hb, hu, hv, hc⟩ := HR.out k e he
      obtain ⟨h0, h1, h2, h3⟩ := four_of hc
      have He := Lib.hid he
      obtain ⟨A', c', rfl, -, -⟩ := hu
      clear hv hc he h0 h1 h3
      by_cases hn : e.names.length ≤ 12
      · have hd : decide ((12 : Int) < (e.names.length : Int)) = false := decide_eq_false (by omega)
        go_wp2
        go_roundw
        case rel =>
          refine ⟨k + 1, by omega, by go_num, fun j e' hj h' => ?_, by first | rfl | trivial⟩
          by_cases hjk : j = k
          · subst hjk
            rw [He.out] at h'
            injection h' with h'
            subst h'
            exact hn
          · exact HA.out j e' (by omega) h'
        case measure => simp [intOf]; omega
      · have hd : decide ((12 : Int) < (e.names.length : Int)) = true := decide_eq_true (by omega)
        go_wp2
        go_ret
        exact ⟨false, rfl, (fun h => by cases h), Below.refl _ _⟩
    · obtain rfl : k = E.length := by omega
      by_cases h12 : E.length ≤ 12
      · go_wp2_with fail
        go_at_call 14
        refine (stepsokN_any A c E _ HR.out h12 HZ.out (fun j e h => HA.out j e (by have := (List.getElem?_eq_some_iff.1 h).1; omega) h) HT.out).mono ?_
        rintro e w' ⟨b, rfl, hb, hB⟩
        have HN : Hid (b = true → FewE E ∧ ∀ (k : Nat) (e : St), E[k]? = some e → e.names.Nodup) := fun h => ⟨⟨h12, fun j e he => ⟨(hb h j e he).1, HA.out j e (by have := (List.getElem?_eq_some_iff.1 he).1; omega) he, (hb h j e he).2.1⟩⟩, fun j e he => (hb h j e he).2.2⟩
        have HB := Lib.hid hB
        clear hb hB
        go_wp2
        go_ret
        exact ⟨b, rfl, HN.out, HB.out⟩
      · go_wp2
        go_ret
        exact ⟨false, rfl, (fun h => by cases h), Below.refl _ _⟩

end Go.Proofs.YthmijakellfbiaaDoor
