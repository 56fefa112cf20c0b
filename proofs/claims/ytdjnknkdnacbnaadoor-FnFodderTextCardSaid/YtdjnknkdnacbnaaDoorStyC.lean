/-
  What the law takes for comments: plainComments. Conditions: none.
-/
import Derived.Test.YtdjnknkdnacbnaaDoorFodB
import Derived.WalkLawsBesides
import Derived.Lib.Strings
namespace Go.Proofs.YtdjnknkdnacbnaaDoor
open Go.RowKit
set_option linter.unusedVariables false
set_option linter.unusedSimpArgs false

def SomeNat (w : World) (e : Ending) (w' : World) : Prop := ∃ n : Nat, n ≤ 9223372036854775807 ∧ e = .returned (.int .i64 n) ∧ w = w'
theorem feeds_any (s : ByteArray) (w : World) (hs : s.size ≤ 9223372036854775807) : Calls Tryd.prog 9 #[.string s] w (SomeNat w) := by
  go_enter Tryd.func9, Tryd.ntmps9
  go_wp2
  go_loop [3, 4] (fun n i => ∃ k m : Nat, k ≤ s.size ∧ m ≤ k ∧ i = .int .i64 k ∧ n = .int .i64 m) (fun _ i => s.size - (intOf i).toNat)
  case atStart => exact ⟨0, 0, by omega, by omega, rfl, rfl⟩
  case round =>
    obtain ⟨k, m, hk, hm, rfl, rfl⟩ := hrel
    by_cases hlt : k < s.size
    · go_wp2
      all_goals
        go_round
        case rel => first | exact ⟨k + 1, m + 1, by omega, by omega, by go_num, by go_num⟩ | exact ⟨k + 1, m, by omega, by omega, by go_num, rfl⟩
        case measure => simp [intOf]; omega
    · go_wp2
      go_ret
      exact ⟨m, by omega, rfl, rfl⟩

/-- A truth with what it tells. -/
def Tells (w : World) (p : Bool → Prop) (e : Ending) (w' : World) : Prop := ∃ b, e = .returned (.bool b) ∧ p b ∧ Below w.heap.size w w'
def FitE (E : List El) : Prop := E.length ≤ maxLen ∧ ∀ (k : Nat) (e : El), E[k]? = some e → e.text.length ≤ maxLen ∧ ∀ s ∈ e.text, s.size ≤ maxLen
def FullE (E : List El) : Prop := ∀ (k : Nat) (e : El) (s : ByteArray), E[k]? = some e → s ∈ e.text → 0 < s.size

set_option maxRecDepth 100000 in
set_option maxHeartbeats 800000 in
theorem plain_any (A : Option Addr) (c : Nat) (E : List El) (w : World) (hF : FitE E) (h : Els cellsI w A E) :
    Calls Tryd.prog 5 #[.slice A E.length c] w (Tells w fun b => b = true → OkF E ∧ FullE E) := by
  have hE1 := hF.1
  unfold maxLen at hE1
  have HF := Lib.hid hF.2
  have HR := Lib.hid h
  clear hF h
  go_enter Tryd.func5, Tryd.ntmps5
  go_wp2
  go_loop [3] (fun i => ∃ k : Nat, k ≤ E.length ∧ i = .int .i64 k ∧ ∀ (j : Nat) (e : El) (s : ByteArray), j < k → E[j]? = some e → s ∈ e.text → 0 < s.size) (fun i => E.length - (intOf i).toNat)
  case atStart => exact ⟨0, by omega, rfl, fun j e s h => absurd h (by omega)⟩
  case round =>
    obtain ⟨k, hk, rfl, hall⟩ := hrel
    have HA := Lib.hid hall
    clear hall
    by_cases hlt : k < E.length
    · obtain ⟨e, he⟩ : ∃ e, E[k]? = some e := ⟨_, List.getElem?_eq_getElem hlt⟩
      obtain ⟨ad, u, rfl, hb, hu, hc⟩ := HR.out k e he
      obtain ⟨-, -, -, h3⟩ := four_of hc
      have hfit := HF.out k e he
      have He := Lib.hid he
      obtain ⟨K, B, I, ss⟩ := e
      simp only at h3 hu hfit
      obtain ⟨A', c', rfl, hlc, hr⟩ := hu
      have Hr := Lib.hid hr
      have hss := hfit.1
      unfold maxLen at hss
      have Hsz := Lib.hid hfit.2
      have HN : Hid ((∀ s ∈ ss, 0 < s.size) → ∀ (j : Nat) (e : El) (s : ByteArray), j < k + 1 → E[j]? = some e → s ∈ e.text → 0 < s.size) := fun ho j e s hj h hs => by
        by_cases hjk : j = k
        · subst hjk
          rw [He.out] at h
          injection h with h
          subst h
          exact ho s hs
        · exact HA.out j e s (by omega) h hs
      have z0 : (0 : Int) ≤ (k : Int) := by omega
      clear he hc hr hfit HA
      go_wp2
      go_loop [4] (fun i => ∃ m : Nat, m ≤ ss.length ∧ i = .int .i64 m ∧ ∀ (j : Nat) (s : ByteArray), j < m → ss[j]? = some s → 0 < s.size) (fun i => ss.length - (intOf i).toNat)
      case atStart => exact ⟨0, by omega, rfl, fun j s h => absurd h (by omega)⟩
      case round =>
        obtain ⟨m, hm, rfl, hall⟩ := hrel
        have HB := Lib.hid hall
        clear hall
        by_cases hmlt : m < ss.length
        · obtain ⟨ad', s, rfl, hb', hs, hc'⟩ := Hr.out.line hmlt
          have hs2 : s.size ≤ 9223372036854775807 := Hsz.out s (List.mem_of_getElem? hs)
          have Hs := Lib.hid hs
          clear hs
          by_cases hz : s.size = 0
          · have he : s.toList = [] := by
              have : s.toList.length = s.size := by rw [Lib.toList_data]; rfl
              exact List.eq_nil_of_length_eq_zero (by omega)
            have Hz := Lib.hid hz
            clear hz
            go_wp2
            go_ret
            exact ⟨_, rfl, fun h => by simp at h, Below.refl _ _⟩
          · have he : ¬ s.toList = [] := by
              intro h
              have : s.toList.length = s.size := by rw [Lib.toList_data]; rfl
              rw [h] at this; simp at this; omega
            have he2 : s.toList.isEmpty = false := by simpa using he
            clear he
            have HM : Hid (∀ (j : Nat) (s : ByteArray), j < m + 1 → ss[j]? = some s → 0 < s.size) := fun j s' hj hs' => by
              by_cases hjk : j = m
              · subst hjk
                rw [Hs.out] at hs'
                injection hs' with hs'
                subst hs'
                omega
              · exact HB.out j s' (by omega) hs'
            clear hz
            go_wp2_with fail
            go_at_call 9
            refine (feeds_any s _ hs2).mono ?_
            rintro e' w' ⟨n, hn, rfl, rfl⟩
            by_cases hn0 : 0 < n
            · have hd0 : decide (0 < n) = true := decide_eq_true hn0
              go_wp2
              go_ret
              exact ⟨_, rfl, fun h => by simp at h, Below.refl _ _⟩
            · have hd0 : decide (0 < n) = false := decide_eq_false hn0
              go_wp2
              go_round
              case rel => exact ⟨m + 1, by omega, by go_num, HM.out⟩
              case measure => simp [intOf]; omega
        · have HM : Hid (∀ s ∈ ss, 0 < s.size) := fun s hs => by
            obtain ⟨j, hj, rfl⟩ := List.getElem_of_mem hs
            exact HB.out j _ (by omega) (List.getElem?_eq_getElem hj)
          clear HB
          go_wp2
          go_round
          case rel => exact ⟨k + 1, by omega, by go_num, HN.out HM.out⟩
          case measure => simp [intOf]; omega
    · have HM : Hid (FullE E) := fun j e s h hs => HA.out j e s (by have := (List.getElem?_eq_some_iff.1 h).1; omega) h hs
      clear HA
      go_wp2_with fail
      go_at_call 10
      refine (fodder_any A c E w HR.out).mono ?_
      rintro e' w2 ⟨⟨b, rfl, hok⟩, hb2⟩
      have HX := Lib.hid (And.intro hok hb2)
      clear hok hb2
      go_wp2
      go_ret
      exact ⟨b, rfl, fun h => ⟨HX.out.1 h, HM.out⟩, HX.out.2⟩
end Go.Proofs.YtdjnknkdnacbnaaDoor
