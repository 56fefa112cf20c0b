/-
  Steps: none takes a field out; a name in a list. Conditions: none.
-/
import Derived.Test.YthmijakellfbiaaDoorStpB
import Derived.Lib.Strings
namespace Go.Proofs.YthmijakellfbiaaDoor
open Go.RowKit
set_option linter.unusedVariables false

theorem kept_any (A : Option Addr) (c : Nat) (E : List St) (w : World) (hE : E.length ≤ 4611686018427387904) (h : Sts cellsS w A E) :
    Calls Tryd.prog 9 #[.slice A E.length c] w fun e w' => (∃ b, e = .returned (.bool b) ∧ (b = true → ∀ (k : Nat) (e : St), E[k]? = some e → e.is_ = false)) ∧ w = w' := by
  have HR := Lib.hid h
  clear h
  go_enter Tryd.func9, Tryd.ntmps9
  go_wp2
  go_loopw [3] (fun i wr => ∃ k : Nat, k ≤ E.length ∧ i = .int .i64 k ∧ (∀ (j : Nat) (e : St), j < k → E[j]? = some e → e.is_ = false) ∧ wr = w) (fun i _ => E.length - (intOf i).toNat)
  case atStart => exact ⟨0, by omega, rfl, fun j e h => absurd h (by omega), rfl⟩
  case round =>
    obtain ⟨k, hk, rfl, hall, rfl⟩ := hrel
    have HA := Lib.hid hall
    clear hall
    by_cases hlt : k < E.length
    · obtain ⟨e, he⟩ : ∃ e, E[k]? = some e := ⟨_, List.getElem?_eq_getElem hlt⟩
      obtain ⟨ad, u, v, rfl, hb, hu, hv, hc⟩ := HR.out k e he
      obtain ⟨h0, h1, h2, h3⟩ := four_of hc
      have He := Lib.hid he
      clear hu hv hc he h1 h2 h3
      rcases hi : e.is_ with _ | _
      · have HI := Lib.hid hi
        rw [hi] at h0
        clear hi
        go_wp2
        go_roundw
        case rel =>
          refine ⟨k + 1, by omega, by go_num, fun j e' hj h' => ?_, by first | rfl | trivial⟩
          by_cases hjk : j = k
          · subst hjk
            rw [He.out] at h'
            injection h' with h'
            subst h'
            exact HI.out
          · exact HA.out j e' (by omega) h'
        case measure => simp [intOf]; omega
      · rw [hi] at h0
        clear hi
        go_wp2
        go_ret
        exact ⟨⟨_, rfl, fun h => by cases h⟩, by first | rfl | trivial⟩
    · go_wp2
      go_ret
      exact ⟨⟨_, rfl, fun _ j e h => HA.out j e (by have := (List.getElem?_eq_some_iff.1 h).1; omega) h⟩, by first | rfl | trivial⟩

theorem list_eq {a b : ByteArray} (h : (a.toList == b.toList) = true) : a = b := by
  have : a.toList = b.toList := by simpa using h
  rw [Lib.toList_data, Lib.toList_data] at this
  obtain ⟨⟨l⟩⟩ := a
  obtain ⟨⟨m⟩⟩ := b
  have e : l = m := this
  rw [e]
set_option maxRecDepth 100000 in
theorem place_any (A : Option Addr) (c : Nat) (ss : List ByteArray) (s : ByteArray) (w : World) (hl : ss.length ≤ 4611686018427387904) (h : Reads w w.heap.size 1 A ss.length (strs ss)) :
    Calls Tryd.prog 17 #[.slice A ss.length c, .string s] w fun e w' => (∃ n : Int, e = .returned (.int .i64 n) ∧ (0 ≤ n ↔ s ∈ ss)) ∧ w = w' := by
  have HR := Lib.hid h
  clear h
  go_enter Tryd.func17, Tryd.ntmps17
  go_wp2
  go_loop [5] (fun i => ∃ k : Nat, k ≤ ss.length ∧ i = .int .i64 k ∧ (∀ j, j < k → ss[j]? ≠ some s)) (fun i => ss.length - (intOf i).toNat)
  case atStart => exact ⟨0, by omega, rfl, fun j h => absurd h (by omega)⟩
  case round =>
    obtain ⟨k, hk, rfl, hall⟩ := hrel
    have HA := Lib.hid hall
    clear hall
    by_cases hlt : k < ss.length
    · obtain ⟨ad, t, rfl, hb, ht, hc⟩ := HR.out.line hlt
      have Ht := Lib.hid ht
      clear ht
      cases heq : (t.toList == s.toList)
      · go_wp2
        go_round
        case rel =>
          refine ⟨k + 1, by omega, by go_num, fun j hj => ?_⟩
          by_cases hjk : j = k
          · subst hjk
            rw [Ht.out]
            intro e
            injection e with e
            subst e
            simp at heq
          · exact HA.out j (by omega)
        case measure => simp [intOf]; omega
      · have HM : Hid (s ∈ ss) := Lib.hid (List.mem_of_getElem? ((list_eq heq) ▸ Ht.out))
        go_wp2
        go_ret
        exact ⟨⟨_, rfl, iff_of_true (by omega) HM.out⟩, rfl⟩
    · go_wp2
      go_ret
      refine ⟨⟨_, rfl, iff_of_false (by omega) fun hm => ?_⟩, rfl⟩
      obtain ⟨j, hj, e⟩ := List.mem_iff_getElem.1 hm
      exact HA.out j (by omega) (by rw [← e]; exact List.getElem?_eq_getElem hj)
theorem mentions_any (A : Option Addr) (c : Nat) (ss : List ByteArray) (s : ByteArray) (w : World) (hl : ss.length ≤ 4611686018427387904) (h : Reads w w.heap.size 1 A ss.length (strs ss)) :
    Calls Tryd.prog 11 #[.slice A ss.length c, .string s] w fun e w' => (∃ b, e = .returned (.bool b) ∧ (b = true ↔ s ∈ ss)) ∧ w = w' := by
  have H := Lib.hid (place_any A c ss s w hl h)
  clear h
  go_enter Tryd.func11, Tryd.ntmps11
  go_wp2_with (go_at_call 17; refine H.out.mono ?_; rintro e w' ⟨⟨n, rfl, hn⟩, rfl⟩)
  go_ret
  exact ⟨⟨_, rfl, by rw [decide_eq_true_eq]; exact hn⟩, rfl⟩
end Go.Proofs.YthmijakellfbiaaDoor
