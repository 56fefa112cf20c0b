/-
  What the law takes for comments: signed, bangs. Conditions: none.
-/
import Derived.Test.YtdjnknkdnacbnaaStyC
import Derived.Test.YtdjnknkdnacbnaaStyA
namespace Go.Proofs.Ytdjnknkdnacbnaa
open Go.RowKit
set_option linter.unusedVariables false
set_option linter.unusedSimpArgs false

theorem lit2 (a b : UInt8) : (⟨#[a, b]⟩ : ByteArray).toList = [a, b] := by rw [Lib.toList_data]
theorem lit1 (a : UInt8) : (⟨#[a]⟩ : ByteArray).toList = [a] := by rw [Lib.toList_data]
theorem ext1 (s : ByteArray) (h : 0 < s.size) : (s.extract 0 1).toList = [s[0]] := by
  rw [Lib.toList_data, Lib.extract_data]
  obtain ⟨⟨l⟩⟩ := s
  cases l with
  | nil => simp [ByteArray.size] at h
  | cons a t => rfl
theorem ha_is (s : ByteArray) (h : 0 < s.size) : stB s cHa = ((s[0].toNat : Int) == 35) := by
  unfold stB cHa
  rw [show (⟨#[35]⟩ : ByteArray).size = 1 from rfl, ext1 s h, lit1, decide_eq_true (by omega : 1 ≤ s.size), Bool.true_and, Bool.eq_iff_iff]
  simp [← UInt8.toNat_inj]
  omega
theorem two_is (s : ByteArray) (a b : UInt8) : stB s ⟨#[a, b]⟩ = (decide (1 < s.size) && ((s.extract 0 2).toList == [a, b])) := by
  unfold stB
  rw [show (⟨#[a, b]⟩ : ByteArray).size = 2 from rfl, lit2]
  rfl

def SignedEl (e : El) : Prop := ∀ s, e.text[0]? = some s → (stB s ⟨#[47, 42]⟩ = true ↔ (e.kind = 1 ∨ 1 < e.text.length)) ∧ (stB s ⟨#[47, 42]⟩ = false → stB s cHa = true ∨ stB s cSl = true)

set_option maxRecDepth 100000 in
set_option maxHeartbeats 6400000 in
theorem signed_any (A : Option Addr) (c : Nat) (E : List El) (w : World) (hF : OkF E) (hfull : FullE E) (h : Els cellsI w A E) :
    Calls Try.prog 7 #[.slice A E.length c] w (Tells w fun b => b = true → ∀ (k : Nat) (e : El), E[k]? = some e → SignedEl e) := by
  have hE1 := hF.1
  have HF := Lib.hid hF.2
  have HR := Lib.hid h
  have HU := Lib.hid hfull
  clear hF h hfull
  go_enter Try.func7, Try.ntmps7
  go_wp2
  go_loop [3] (fun i => ∃ k : Nat, k ≤ E.length ∧ i = .int .i64 k ∧ ∀ (j : Nat) (e : El), j < k → E[j]? = some e → SignedEl e) (fun i => E.length - (intOf i).toNat)
  case atStart => exact ⟨0, by omega, rfl, fun j e h => absurd h (by omega)⟩
  case round =>
    obtain ⟨k, hk, rfl, hall⟩ := hrel
    have HA := Lib.hid hall
    clear hall
    by_cases hlt : k < E.length
    · obtain ⟨e, he⟩ : ∃ e, E[k]? = some e := ⟨_, List.getElem?_eq_getElem hlt⟩
      obtain ⟨ad, u, rfl, hb, hu, hc⟩ := HR.out k e he
      obtain ⟨h0, -, -, h3⟩ := four_of hc
      have hok := HF.out k e he
      have hful := fun s => HU.out k e s he
      have He := Lib.hid he
      have HN : Hid (SignedEl e → ∀ (j : Nat) (e : El), j < k + 1 → E[j]? = some e → SignedEl e) := fun ho j e' hj h => by
        by_cases hjk : j = k
        · subst hjk
          rw [He.out] at h
          injection h with h
          subst h
          exact ho
        · exact HA.out j e' (by omega) h
      obtain ⟨K, B, I, ss⟩ := e
      simp only at h0 h3 hu
      obtain ⟨A', c', rfl, hlc, hr⟩ := hu
      have Hr := Lib.hid hr
      have hss := hok.2.2.2.2.1
      have Hsz := Lib.hid hok.2.2.2.2.2.1
      have Hful := Lib.hid hful
      simp only at hss
      have z0 : (0 : Int) ≤ (k : Int) := by omega
      clear he hc hr hok hful HA He
      rcases ss with _ | ⟨s, rest⟩
      · simp only [List.length_nil] at h3
        go_wp2
        go_round
        case rel => exact ⟨k + 1, by omega, by go_num, HN.out (fun s h => by simp at h)⟩
        case measure => simp [intOf]; omega
      · obtain ⟨ad', s', rfl, hb', hs', hc'⟩ := Hr.out.line (k := 0) (by simp)
        simp at hs'
        subst hs'
        have hs2 : s.size ≤ 200 := Hsz.out 0 s rfl
        have hs0 : 0 < s.size := Hful.out s (by simp)
        have hc2 : w.cell? ad' = some (.string s) := hc'
        have he2 : s.toList.isEmpty = false := by
          have : s.toList.length = s.size := by rw [Lib.toList_data]; rfl
          cases h : s.toList with
          | nil => rw [h] at this; simp at this; omega
          | cons a b => rfl
        simp only [List.length_cons] at h3 hss
        clear hc' hb'
        have HS : Hid (((K == 1) || decide (1 < (rest.length : Int) + 1)) = stB s ⟨#[47, 42]⟩ → (stB s ⟨#[47, 42]⟩ = false → stB s cHa = true ∨ stB s cSl = true) → SignedEl ⟨K, B, I, s :: rest⟩) := fun h1 h2 s' hs' => by
          simp at hs'
          subst hs'
          refine ⟨?_, h2⟩
          rw [← h1]
          simp
          omega
        have T1 := Lib.hid (two_is s 47 42)
        have T2 := Lib.hid (two_is s 47 47)
        have T3 := Lib.hid (ha_is s hs0)
        have HFS : Hid (∀ r, ((K == 1) || decide (1 < (rest.length : Int) + 1)) = r → stB s ⟨#[47, 42]⟩ = r → (r = false → stB s cHa = true ∨ stB s cSl = true) → ∀ (j : Nat) (e : El), j < k + 1 → E[j]? = some e → SignedEl e) := fun r h1 h2 h3 => HN.out (HS.out (by rw [h1, h2]) (by rw [h2]; exact h3))
        clear HN HS
        cases hK : (K == 1) <;> cases hR : decide (1 < (rest.length : Int) + 1)
        all_goals
          by_cases hs1 : 1 < s.size
          · have hs1' : decide (1 < s.size) = true := decide_eq_true hs1
            cases hB : ((s.extract 0 2).toList == [47, 42]) <;> cases hS : ((s[0].toNat : Int) == 35) <;> cases hL : ((s.extract 0 2).toList == [47, 47])
            all_goals
              go_wp2
              first
                | (go_ret; exact ⟨_, rfl, fun h => by simp at h, Below.refl _ _⟩)
                | (go_round
                   case rel => exact ⟨k + 1, by omega, by go_num, HFS.out _ (by rw [hK, hR]) (by rw [T1.out, hs1', hB]; rfl) (fun h => by first | exact absurd h (by decide) | (left; rw [T3.out, hS]; done) | (right; show stB s ⟨#[47, 47]⟩ = true; rw [T2.out, hs1', hL]; rfl))⟩
                   case measure => simp [intOf]; omega)
          · have hs1' : decide (1 < s.size) = false := decide_eq_false hs1
            cases hS : ((s[0].toNat : Int) == 35)
            all_goals
              go_wp2
              first
                | (go_ret; exact ⟨_, rfl, fun h => by simp at h, Below.refl _ _⟩)
                | (go_round
                   case rel => exact ⟨k + 1, by omega, by go_num, HFS.out _ (by rw [hK, hR]) (by rw [T1.out, hs1']; rfl) (fun h => by first | exact absurd h (by decide) | (left; rw [T3.out, hS]; done))⟩
                   case measure => simp [intOf]; omega)
    · have HM := Lib.hid (fun (j : Nat) (e : El) (h : E[j]? = some e) => HA.out j e (by have := (List.getElem?_eq_some_iff.1 h).1; omega) h)
      clear HA
      go_wp2
      go_ret
      exact ⟨_, rfl, fun _ => HM.out, Below.refl _ _⟩

def NoBang (E : List El) : Prop := ∀ (k : Nat) (e : El) (s : ByteArray), E[k]? = some e → e.text[0]? = some s → 1 < E.length → stB s cBa = false

set_option maxRecDepth 100000 in
set_option maxHeartbeats 1600000 in
theorem bangs_any (A : Option Addr) (c : Nat) (E : List El) (w : World) (hF : OkF E) (h : Els cellsI w A E) :
    Calls Try.prog 8 #[.slice A E.length c] w (Tells w fun b => b = false → NoBang E) := by
  have hE1 := hF.1
  have HF := Lib.hid hF.2
  have HR := Lib.hid h
  clear hF h
  by_cases hl1 : 1 < E.length
  · have hl1' : decide (1 < E.length) = true := decide_eq_true hl1
    go_enter Try.func8, Try.ntmps8
    go_wp2
    go_loop [3] (fun i => ∃ k : Nat, k ≤ E.length ∧ i = .int .i64 k ∧ ∀ (j : Nat) (e : El) (s : ByteArray), j < k → E[j]? = some e → e.text[0]? = some s → stB s cBa = false) (fun i => E.length - (intOf i).toNat)
    case atStart => exact ⟨0, by omega, rfl, fun j e s h => absurd h (by omega)⟩
    case round =>
      obtain ⟨k, hk, rfl, hall⟩ := hrel
      have HA := Lib.hid hall
      clear hall
      by_cases hlt : k < E.length
      · obtain ⟨e, he⟩ : ∃ e, E[k]? = some e := ⟨_, List.getElem?_eq_getElem hlt⟩
        obtain ⟨ad, u, rfl, hb, hu, hc⟩ := HR.out k e he
        obtain ⟨h0, -, -, h3⟩ := four_of hc
        have hok := HF.out k e he
        have He := Lib.hid he
        have HN : Hid ((∀ s, e.text[0]? = some s → stB s cBa = false) → ∀ (j : Nat) (e : El) (s : ByteArray), j < k + 1 → E[j]? = some e → e.text[0]? = some s → stB s cBa = false) := fun ho j e' s hj h hs => by
          by_cases hjk : j = k
          · subst hjk
            rw [He.out] at h
            injection h with h
            subst h
            exact ho s hs
          · exact HA.out j e' s (by omega) h hs
        obtain ⟨K, B, I, ss⟩ := e
        simp only at h0 h3 hu
        obtain ⟨A', c', rfl, hlc, hr⟩ := hu
        have Hr := Lib.hid hr
        have hss := hok.2.2.2.2.1
        have Hsz := Lib.hid hok.2.2.2.2.2.1
        simp only at hss
        have z0 : (0 : Int) ≤ (k : Int) := by omega
        clear he hc hr hok HA He
        rcases ss with _ | ⟨s, rest⟩
        · simp only [List.length_nil] at h3
          go_wp2
          go_round
          case rel => exact ⟨k + 1, by omega, by go_num, HN.out (fun s h => by simp at h)⟩
          case measure => simp [intOf]; omega
        · obtain ⟨ad', s', rfl, hb', hs', hc'⟩ := Hr.out.line (k := 0) (by simp)
          simp at hs'
          subst hs'
          have hs2 : s.size ≤ 200 := Hsz.out 0 s rfl
          have hc2 : w.cell? ad' = some (.string s) := hc'
          simp only [List.length_cons] at h3 hss
          have T1 := Lib.hid (two_is s 35 33)
          have HS : Hid (stB s cBa = false → ∀ s', (s :: rest)[0]? = some s' → stB s' cBa = false) := fun h s' hs' => by
            simp at hs'
            subst hs'
            exact h
          clear hc' hb'
          by_cases hs1 : 1 < s.size
          · have hs1' : decide (1 < s.size) = true := decide_eq_true hs1
            cases hB : ((s.extract 0 2).toList == [35, 33])
            all_goals
              go_wp2
              first
                | (go_ret; exact ⟨_, rfl, fun h => by simp at h, Below.refl _ _⟩)
                | (go_round
                   case rel => exact ⟨k + 1, by omega, by go_num, HN.out (HS.out (by show stB s ⟨#[35, 33]⟩ = false; rw [T1.out, hs1', hB]; rfl))⟩
                   case measure => simp [intOf]; omega)
          · have hs1' : decide (1 < s.size) = false := decide_eq_false hs1
            go_wp2
            go_round
            case rel => exact ⟨k + 1, by omega, by go_num, HN.out (HS.out (by show stB s ⟨#[35, 33]⟩ = false; rw [T1.out, hs1']; rfl))⟩
            case measure => simp [intOf]; omega
      · have HM : Hid (NoBang E) := fun j e s h hs _ => HA.out j e s (by have := (List.getElem?_eq_some_iff.1 h).1; omega) h hs
        clear HA
        go_wp2
        go_ret
        exact ⟨_, rfl, fun _ => HM.out, Below.refl _ _⟩
  · have hl1' : decide (1 < E.length) = false := decide_eq_false hl1
    have HM : Hid (NoBang E) := fun j e s h hs h1 => absurd h1 hl1
    go_enter Try.func8, Try.ntmps8
    go_wp2
    refine wp_loop_rounds 1 ?_
    rw [rounds_succ]
    go_wp2
    all_goals
      go_ret
      exact ⟨_, rfl, fun _ => HM.out, Below.refl _ _⟩
end Go.Proofs.Ytdjnknkdnacbnaa
