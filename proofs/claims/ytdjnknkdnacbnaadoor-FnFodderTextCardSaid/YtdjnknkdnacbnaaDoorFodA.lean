/-
  Fodder: how the law looks at what comes in. Conditions: none.
-/
import Derived.Test.YtdjnknkdnacbnaaDoorMem
import Derived.WalkKit
import Derived.WalkSpells
import Derived.Lib.Hide
import Derived.Outline
import Derived.Deep.QuietTactic
import Derived.BigQuiet
import Derived.Deep.RegionHeld3
namespace Go.Proofs.YtdjnknkdnacbnaaDoor
open Go.RowKit
set_option linter.unusedVariables false

theorem ret_bool {a b : Bool} (h : a = b) : Ending.returned (.bool a) = .returned (.bool b) := by rw [h]

/-! ### sizes -/
theorem fits5 (A : Option Addr) (c : Nat) (ss : List ByteArray) (w : World) (h : Reads w w.heap.size 1 A ss.length (strs ss)) :
    Calls Tryd.prog 16 #[.slice A ss.length c] w fun e w' => (∃ b, e = .returned (.bool b)) ∧ w = w' := by
  by_cases hm : ss.length ≤ 2147483647
  · have hd : decide ((2147483647 : Int) < (ss.length : Nat)) = false := decide_eq_false (by omega)
    have HR := Lib.hid h
    clear h
    go_enter Tryd.func16, Tryd.ntmps16
    go_wp2
    go_loopw [10] (fun i wr => ∃ k : Nat, k ≤ ss.length ∧ i = .int .i64 k ∧ wr = w) (fun i _ => ss.length - (intOf i).toNat)
    case atStart => exact ⟨0, by omega, rfl, rfl⟩
    case round =>
      obtain ⟨k, hk, rfl, rfl⟩ := hrel
      by_cases hlt : k < ss.length
      · obtain ⟨ad, s, rfl, hb, hs, hc⟩ := HR.out.line hlt
        have Hs := Lib.hid hs
        clear hs
        by_cases hsz : s.size ≤ 2147483647
        · have hd2 : decide ((2147483647 : Int) < (s.size : Nat)) = false := decide_eq_false (by omega)
          go_wp2
          go_roundw
          case rel => exact ⟨k + 1, by omega, by go_num, by first | rfl | trivial⟩
          case measure => simp [intOf]; omega
        · have hd2 : decide ((2147483647 : Int) < (s.size : Nat)) = true := decide_eq_true (by omega)
          go_wp2
          go_ret
          exact ⟨⟨_, rfl⟩, by first | rfl | trivial⟩
      · go_wp2
        go_ret
        exact ⟨⟨_, rfl⟩, by first | rfl | trivial⟩
  · have hd : decide ((2147483647 : Int) < (ss.length : Nat)) = true := decide_eq_true (by omega)
    go_enter Tryd.func16, Tryd.ntmps16
    go_wp2
    go_ret
    exact ⟨⟨_, rfl⟩, by first | rfl | trivial⟩

def aggI (e : El) (u : Value) : Value := .agg #[.int .i64 e.kind, .int .i64 e.blanks, .int .i64 e.indent, u]

theorem fits8 (e : El) (u : Value) (w : World) (h : Lines w u e.text) :
    Calls Tryd.prog 8 #[aggI e u] w fun e w' => (∃ b, e = .returned (.bool b)) ∧ Below w.heap.size w w' := by
  obtain ⟨A, c, rfl, hl, hr⟩ := h
  have HR := Lib.hid hr
  clear hr
  unfold aggI
  go_enter Tryd.func8, Tryd.ntmps8
  go_wp2_with fail
  go_at_call 16
  refine (fits5 A c e.text _ ?_).mono ?_
  · exact (HR.out.below ((Below.refl _ _).alloc (Nat.le_refl _) _)).more (by simp)
  rintro e w' ⟨⟨b, rfl⟩, rfl⟩
  cases b
  all_goals
    go_wp2
    go_ret
    exact ⟨⟨_, rfl⟩, (Below.refl _ _).alloc (Nat.le_refl _) _⟩

theorem fits7 (A : Option Addr) (c : Nat) (E : List El) (w : World) (h : Els cellsI w A E) :
    Calls Tryd.prog 4 #[.slice A E.length c] w fun e w' => (∃ b, e = .returned (.bool b)) ∧ Below w.heap.size w w' := by
  by_cases hm : E.length ≤ 2147483647
  · have hd : decide ((2147483647 : Int) < (E.length : Nat)) = false := decide_eq_false (by omega)
    have HR := Lib.hid h
    clear h
    go_enter Tryd.func4, Tryd.ntmps4
    go_wp2
    go_loopw [10] (fun i wr => ∃ k : Nat, k ≤ E.length ∧ i = .int .i64 k ∧ Below w.heap.size w wr) (fun i _ => E.length - (intOf i).toNat)
    case atStart => exact ⟨0, by omega, rfl, Below.refl _ _⟩
    case round =>
      obtain ⟨k, hk, rfl, hbw⟩ := hrel
      by_cases hlt : k < E.length
      · obtain ⟨e, he⟩ : ∃ e, E[k]? = some e := ⟨_, List.getElem?_eq_getElem hlt⟩
        obtain ⟨ad, u, rfl, hb, hu, hc⟩ := HR.out.below hbw k e he
        obtain ⟨h0, h1, h2, h3⟩ := four_of hc
        have Hu := Lib.hid hu
        obtain ⟨A', c', rfl, -, -⟩ := hu
        have hsz := hbw.size
        clear he hc
        go_wp2_with fail
        go_at_call 8
        refine (fits8 e (.slice A' e.text.length c') _ (Hu.out.below ((Below.refl _ _).alloc (Nat.le_refl _) _))).mono ?_
        rintro e' w' ⟨⟨b, rfl⟩, hb8⟩
        have hB := Lib.hid ((hbw.alloc hsz (.cells #[.int .i64 e.kind, .int .i64 e.blanks, .int .i64 e.indent, .slice A' e.text.length c'] 30)).trans (hb8.mono (by simp; omega)))
        clear hb8
        cases b
        · go_wp2
          go_ret
          exact ⟨⟨_, rfl⟩, hB.out⟩
        · go_wp2
          go_roundw
          case rel => exact ⟨k + 1, by omega, by go_num, hB.out⟩
          case measure => simp [intOf]; omega
      · go_wp2
        go_ret
        exact ⟨⟨_, rfl⟩, hbw⟩
  · have hd : decide ((2147483647 : Int) < (E.length : Nat)) = true := decide_eq_true (by omega)
    go_enter Tryd.func4, Tryd.ntmps4
    go_wp2
    go_ret
    exact ⟨⟨_, rfl⟩, Below.refl _ _⟩

/-! ### what fodder is -/
def OkEl (e : El) : Prop := 0 ≤ e.blanks ∧ e.blanks ≤ 1000 ∧ 0 ≤ e.indent ∧ e.indent ≤ 1000 ∧ e.text.length ≤ 20 ∧ (∀ (j : Nat) (s : ByteArray), e.text[j]? = some s → s.size ≤ 200) ∧
  (e.kind = 0 ∧ e.text.length ≤ 1 ∨ e.kind = 1 ∧ e.text.length = 1 ∧ e.blanks = 0 ∧ e.indent = 0 ∨ e.kind = 2 ∧ 0 < e.text.length)

theorem ok_0 {B I : Int} {ss : List ByteArray} (h : OkEl ⟨0, B, I, ss⟩) : ss.length ≤ 1 := by
  obtain ⟨_, _, _, _, _, _, h⟩ := h
  simp only at h
  omega
theorem ok_1 {B I : Int} {ss : List ByteArray} (h : OkEl ⟨1, B, I, ss⟩) : ss.length = 1 ∧ B = 0 ∧ I = 0 := by
  obtain ⟨_, _, _, _, _, _, h⟩ := h
  simp only at h
  omega
theorem ok_2 {B I : Int} {ss : List ByteArray} (h : OkEl ⟨2, B, I, ss⟩) : 0 < ss.length := by
  obtain ⟨_, _, _, _, _, _, h⟩ := h
  simp only at h
  omega
theorem ok_k {K B I : Int} {ss : List ByteArray} (h : OkEl ⟨K, B, I, ss⟩) : K = 0 ∨ K = 1 ∨ K = 2 := by
  obtain ⟨_, _, _, _, _, _, h⟩ := h
  simp only at h
  omega

theorem element_no (K B I : Int) (ss : List ByteArray) (A : Option Addr) (c : Nat) (w : World) (h : ¬ (0 ≤ B ∧ B ≤ 1000 ∧ 0 ≤ I ∧ I ≤ 1000 ∧ ss.length ≤ 20)) :
    Calls Tryd.prog 17 #[.agg #[.int .i64 K, .int .i64 B, .int .i64 I, .slice A ss.length c]] w fun e w' => e = .returned (.bool false) ∧ Below w.heap.size w w' := by
  have hw : B < 0 ∨ (0 ≤ B ∧ 1000 < B) ∨ (0 ≤ B ∧ B ≤ 1000 ∧ I < 0) ∨ (0 ≤ B ∧ B ≤ 1000 ∧ 0 ≤ I ∧ 1000 < I) ∨ (0 ≤ B ∧ B ≤ 1000 ∧ 0 ≤ I ∧ I ≤ 1000 ∧ 20 < ss.length) := by omega
  clear h
  rcases hw with h | ⟨h1, h⟩ | ⟨h1, h2, h⟩ | ⟨h1, h2, h3, h⟩ | ⟨h1, h2, h3, h4, h⟩
  all_goals
    go_enter Tryd.func17, Tryd.ntmps17
    go_wp2
    go_ret
    exact ⟨rfl, (Below.refl _ _).alloc (Nat.le_refl _) _⟩

set_option maxRecDepth 100000 in
theorem element_any (K B I : Int) (ss : List ByteArray) (A : Option Addr) (c : Nat) (w : World) (hr : Reads w w.heap.size 1 A ss.length (strs ss)) :
    Calls Tryd.prog 17 #[.agg #[.int .i64 K, .int .i64 B, .int .i64 I, .slice A ss.length c]] w fun e w' => (∃ b, e = .returned (.bool b) ∧ (b = true ↔ OkEl ⟨K, B, I, ss⟩)) ∧ Below w.heap.size w w' := by
  by_cases h : 0 ≤ B ∧ B ≤ 1000 ∧ 0 ≤ I ∧ I ≤ 1000 ∧ ss.length ≤ 20
  · obtain ⟨b1, b2, b3, b4, b5⟩ := h
    have HR := Lib.hid hr
    clear hr
    go_enter Tryd.func17, Tryd.ntmps17
    go_wp2
    go_loopw [3] (fun i wr => ∃ k : Nat, k ≤ ss.length ∧ i = .int .i64 k ∧ (∀ (j : Nat) (s : ByteArray), j < k → ss[j]? = some s → s.size ≤ 200) ∧ wr = w.alloc (.cells #[.int .i64 K, .int .i64 B, .int .i64 I, .slice A ss.length c] 30)) (fun i _ => ss.length - (intOf i).toNat)
    case atStart => exact ⟨0, by omega, rfl, fun j s h => absurd h (by omega), by first | rfl | trivial⟩
    case round =>
      obtain ⟨k, hk, rfl, hall, rfl⟩ := hrel
      have HA := Lib.hid hall
      clear hall
      by_cases hlt : k < ss.length
      · obtain ⟨ad, s, rfl, hb, hs, hc⟩ := HR.out.line hlt
        have Hs := Lib.hid hs
        clear hs
        have hc' := (World.cell?_alloc_lt w (.cells #[.int .i64 K, .int .i64 B, .int .i64 I, .slice (some ad) ss.length c] 30) (ad.add k) (by rw [block_of_add]; exact hb)).trans hc
        by_cases hsz : s.size ≤ 200
        · go_wp2
          go_roundw
          case rel =>
            refine ⟨k + 1, by omega, by go_num, fun j s' hj hs' => ?_, by first | rfl | trivial⟩
            by_cases hjk : j = k
            · subst hjk
              rw [Hs.out] at hs'
              injection hs' with hs'
              subst hs'
              exact hsz
            · exact HA.out j s' (by omega) hs'
          case measure => simp [intOf]; omega
        · go_wp2
          go_ret
          exact ⟨⟨_, rfl, iff_of_false (by simp) (fun ⟨_, _, _, _, _, o6, _⟩ => hsz (o6 k s Hs.out))⟩, (Below.refl _ _).alloc (Nat.le_refl _) _⟩
      · have hall : Hid (∀ (j : Nat) (s : ByteArray), ss[j]? = some s → s.size ≤ 200) := fun j s h => HA.out j s (by have := (List.getElem?_eq_some_iff.1 h).1; omega) h
        clear HA
        by_cases k0 : K = 0
        · subst k0
          go_wp2
          go_ret
          refine ⟨⟨_, rfl, ⟨fun h => ⟨b1, b2, b3, b4, b5, hall.out, .inl ⟨rfl, ?_⟩⟩, fun o7 => ?_⟩⟩, (Below.refl _ _).alloc (Nat.le_refl _) _⟩
          · show ss.length ≤ 1
            simp at h
            omega
          · have o := ok_0 o7
            simp
            omega
        by_cases k1 : K = 1
        · subst k1
          by_cases c1 : ss.length = 1
          · by_cases c2 : B = 0
            · subst c2
              by_cases c3 : I = 0
              · subst c3
                go_wp2
                go_ret
                exact ⟨⟨_, rfl, ⟨fun h => ⟨b1, b2, b3, b4, b5, hall.out, .inr (.inl ⟨rfl, c1, rfl, rfl⟩)⟩, fun _ => by simp⟩⟩, (Below.refl _ _).alloc (Nat.le_refl _) _⟩
              · have d3 : (I == 0) = false := by simp; omega
                go_wp2
                go_ret
                exact ⟨⟨_, rfl, iff_of_false (by simp) (fun o7 => c3 (ok_1 o7).2.2)⟩, (Below.refl _ _).alloc (Nat.le_refl _) _⟩
            · have d3 : (B == 0) = false := by simp; omega
              go_wp2
              go_ret
              exact ⟨⟨_, rfl, iff_of_false (by simp) (fun o7 => c2 (ok_1 o7).2.1)⟩, (Below.refl _ _).alloc (Nat.le_refl _) _⟩
          · have d3 : ((ss.length : Int) == 1) = false := by simp; omega
            go_wp2
            go_ret
            exact ⟨⟨_, rfl, iff_of_false (by simp) (fun o7 => c1 (ok_1 o7).1)⟩, (Below.refl _ _).alloc (Nat.le_refl _) _⟩
        by_cases k2 : K = 2
        · subst k2
          go_wp2
          go_ret
          refine ⟨⟨_, rfl, ⟨fun h => ⟨b1, b2, b3, b4, b5, hall.out, .inr (.inr ⟨rfl, ?_⟩)⟩, fun o7 => ?_⟩⟩, (Below.refl _ _).alloc (Nat.le_refl _) _⟩
          · show 0 < ss.length
            simp at h
            omega
          · have o := ok_2 o7
            simp
            omega
        · have d1 : (K == 0) = false := by simp; omega
          have d2 : (K == 1) = false := by simp; omega
          have d3 : (K == 2) = false := by simp; omega
          go_wp2
          go_ret
          exact ⟨⟨_, rfl, iff_of_false (by simp) (fun o7 => by rcases ok_k o7 with h | h | h; exact k0 h; exact k1 h; exact k2 h)⟩, (Below.refl _ _).alloc (Nat.le_refl _) _⟩
  · exact (element_no K B I ss A c w h).mono fun e w' ⟨he, hb⟩ => ⟨⟨_, he, iff_of_false (by simp) (fun ⟨o1, o2, o3, o4, o5, _, _⟩ => h ⟨o1, o2, o3, o4, o5⟩)⟩, hb⟩
def flw (K K' : Int) : Bool := if K' = 0 then K == 1 else if K' = 2 then K != 1 else true
theorem follows_any (K B I K' B' I' : Int) (u u' : Value) (w : World) :
    Calls Tryd.prog 18 #[.agg #[.int .i64 K, .int .i64 B, .int .i64 I, u], .agg #[.int .i64 K', .int .i64 B', .int .i64 I', u']] w fun e w' => e = .returned (.bool (flw K K')) ∧ Below w.heap.size w w' := by
  by_cases k0 : K' = 0
  · subst k0
    go_enter Tryd.func18, Tryd.ntmps18
    go_wp2
    go_ret
    exact ⟨ret_bool (by simp [flw]), ((Below.refl _ _).alloc (Nat.le_refl _) _).alloc (by simp) _⟩
  have d0 : (K' == 0) = false := by simp; omega
  by_cases k2 : K' = 2
  · subst k2
    go_enter Tryd.func18, Tryd.ntmps18
    go_wp2
    go_ret
    exact ⟨ret_bool (by simp [flw]), ((Below.refl _ _).alloc (Nat.le_refl _) _).alloc (by simp) _⟩
  have d2 : (K' == 2) = false := by simp; omega
  go_enter Tryd.func18, Tryd.ntmps18
  go_wp2
  go_ret
  exact ⟨ret_bool (by simp [flw, k0, k2]), ((Below.refl _ _).alloc (Nat.le_refl _) _).alloc (by simp) _⟩
end Go.Proofs.YtdjnknkdnacbnaaDoor
