/-
  finite7, same7, joined7. Conditions: none.
-/
import Derived.Test.YtnnmdceppjmooaaRemD
namespace Go.Proofs.Ytnnmdceppjmooaa
open Go.RowKit
set_option linter.unusedVariables false
set_option linter.unusedSimpArgs false

/-- No NaN. -/
def NN (x : Nat) : Prop := (FloatKind.f64.format.order x x != some .eq) = false
set_option maxRecDepth 100000 in
theorem isInf_some (x : Nat) (hx : x < 18446744073709551616) (w : World) : Calls Try.prog 33 #[.float .f64 x, .int .i64 0] w fun e w' => (∃ b, e = .returned (.bool b)) ∧ w = w' := by
  have HX := Lib.hid hx
  clear hx
  go_enter Try.func33, Try.ntmps33
  go_wp2_with (go_at_call 47; refine (abs_any x HX.out _).mono ?_; rintro e w' ⟨rfl, rfl⟩)
  go_ret
  exact ⟨⟨_, rfl⟩, rfl⟩
set_option maxRecDepth 100000 in
theorem finite_any (x : Nat) (hx : x < 18446744073709551616) (w : World) : Calls Try.prog 21 #[.float .f64 x] w fun e w' => (∃ b, e = .returned (.bool b) ∧ (b = true → NN x)) ∧ w = w' := by
  have HX := Lib.hid hx
  clear hx
  obtain ⟨b, hb⟩ : ∃ b, (FloatKind.f64.format.order x x != some .eq) = b := ⟨_, rfl⟩
  have HB := Lib.hid hb
  have hn : ∀ w, Calls Try.prog 32 #[.float .f64 x] w fun e w' => e = .returned (.bool b) ∧ w = w' := fun w => by rw [← hb]; exact isNaN_any x w
  have Hn := Lib.hid hn
  clear hb hn
  cases b
  · go_enter Try.func21, Try.ntmps21
    go_wp2_with (first | (go_at_call 32; refine (Hn.out _).mono ?_; rintro e w' ⟨rfl, rfl⟩) | (go_at_call 33; refine (isInf_some x HX.out _).mono ?_; rintro e w' ⟨⟨b, rfl⟩, rfl⟩))
    go_ret
    exact ⟨⟨_, rfl, fun _ => HB.out⟩, rfl⟩
  · go_enter Try.func21, Try.ntmps21
    go_wp2_with (first | (go_at_call 32; refine (Hn.out _).mono ?_; rintro e w' ⟨rfl, rfl⟩) | (go_at_call 33; refine (isInf_some x HX.out _).mono ?_; rintro e w' ⟨⟨b, rfl⟩, rfl⟩))
    go_ret
    exact ⟨⟨false, rfl, fun h => by cases h⟩, rfl⟩

/-- Words of the machine. -/
def Wds (xs : List Nat) : Prop := ∀ x ∈ xs, x < 18446744073709551616
/-- A short list without NaN. -/
def Short (xs : List Nat) : Prop := (∀ (i x : Nat), xs[i]? = some x → NN x) ∧ xs.length ≤ 200

def SomeB (p : Prop) (w : World) (e : Ending) (w' : World) : Prop := (∃ b, e = .returned (.bool b) ∧ (b = true → p)) ∧ w = w'

set_option maxRecDepth 100000 in
set_option maxHeartbeats 800000 in
theorem finite7_any (g : Nat) (A : Option Addr) (c cc : Nat) (xs : List Nat) (hw : Wds xs) (hm : xs.length ≤ maxLen) (w : World) (h : Flo w A xs) (hg : w.cell? ⟨g, 0, none⟩ = some (.slice A xs.length c)) :
    Calls Try.prog 14 #[.slice (some ⟨g, 0, none⟩) 1 cc] w (SomeB (Short xs) w) := by
  have HR := Lib.hid h
  have HW := Lib.hid hw
  have hgl := World.block_lt_of_cell? _ _ hg
  simp only [maxLen] at hm
  clear h hw
  go_enter Try.func14, Try.ntmps14
  go_wp2
  go_loop [3] (fun i => i = .int .i64 0 ∨ (i = .int .i64 1 ∧ Hid (Short xs))) (fun i => 1 - (intOf i).toNat)
  case atStart => exact .inl rfl
  case round =>
    rcases hrel with rfl | ⟨rfl, hS⟩
    · go_wp2
      go_loop [4] (fun j => ∃ k : Nat, k ≤ xs.length ∧ j = .int .i64 k ∧ Hid (∀ (i x : Nat), i < k → xs[i]? = some x → NN x)) (fun j => xs.length - (intOf j).toNat)
      case atStart => exact ⟨0, by omega, rfl, fun i x h => absurd h (by omega)⟩
      case round =>
        obtain ⟨k, hk, rfl, hS⟩ := hrel
        by_cases hlt : k < xs.length
        · obtain ⟨ad, x, rfl, hb, hx, hc⟩ := HR.out.at_ hlt
          have z0 : (0 : Int) ≤ (k : Int) := by omega
          have z1 : (k : Int) < (xs.length : Int) := by omega
          have hxw : Hid (x < 18446744073709551616) := HW.out x (List.mem_of_getElem? hx)
          have Hx := Lib.hid hx
          clear hx
          go_wp2_with fail
          go_at_call 21
          refine (finite_any x hxw.out _).mono ?_
          rintro e w' ⟨⟨b, rfl, hnb⟩, rfl⟩
          have HN := Lib.hid hnb
          clear hnb
          cases b
          · go_wp2
            go_ret
            exact ⟨⟨_, rfl, fun h => by cases h⟩, rfl⟩
          · go_wp2
            go_round
            case rel =>
              refine ⟨k + 1, by omega, by go_num, fun i y hi hy => ?_⟩
              by_cases hik : i = k
              · subst hik
                rw [Hx.out] at hy
                injection hy with hy
                subst hy
                exact HN.out (by first | trivial | rfl)
              · exact hS.out i y (by omega) hy
            case measure => simp [intOf]; omega
        · obtain rfl : xs.length = k := by omega
          have hA : Hid (∀ (i x : Nat), xs[i]? = some x → NN x) := fun i x hx => hS.out i x (List.getElem?_eq_some_iff.1 hx).1 hx
          by_cases h2 : 200 < xs.length
          · have h3 : (200 : Int) < (xs.length : Int) := by omega
            go_wp2
            go_ret
            exact ⟨⟨_, rfl, fun h => by cases h⟩, rfl⟩
          · have h3 : ¬ (200 : Int) < (xs.length : Int) := by omega
            have h4 : Hid (xs.length ≤ 200) := by show _ ≤ _; omega
            go_wp2
            go_round
            case rel => exact .inr ⟨by first | trivial | go_num, (show Short xs from ⟨hA.out, h4.out⟩)⟩
            case measure => simp [intOf]
    · go_wp2
      go_ret
      exact ⟨⟨_, rfl, fun _ => hS.out⟩, rfl⟩

/-- True, and the world as it was but for drawing. -/
def TrueDrew (w : World) (e : Ending) (w' : World) : Prop := e = .returned (.bool true) ∧ ∃ m, w' = w.drewN m
set_option maxRecDepth 100000 in
theorem same7_any (A A' : Option Addr) (n c c' : Nat) (xs : List Nat) (hn : xs.length = n) (hm : xs.length ≤ 1000) (hs : ∀ (i x : Nat), xs[i]? = some x → NN x) (w : World) (h : Flo w A xs) (h' : Flo w A' xs) :
    Calls Try.prog 16 #[.slice A n c, .slice A' n c'] w (TrueDrew w) := by
  subst hn
  have HR := Lib.hid h
  have HR' := Lib.hid h'
  have HS := Lib.hid hs
  clear h h' hs
  go_enter Try.func16, Try.ntmps16
  go_wp2
  go_loopw [5] (fun i wr => ∃ k m : Nat, k ≤ xs.length ∧ i = .int .i64 k ∧ wr = w.drewN m) (fun i _ => xs.length - (intOf i).toNat)
  case atStart => exact ⟨0, 0, by omega, rfl, rfl⟩
  case round =>
    obtain ⟨k, m, hk, rfl, rfl⟩ := hrel
    by_cases hlt : k < xs.length
    · obtain ⟨ad, x, rfl, hb, hx, hc⟩ := HR.out.at_ hlt
      obtain ⟨ad', x', rfl, hb', hx', hc'⟩ := HR'.out.at_ hlt
      obtain rfl : x = x' := by rw [hx] at hx'; injection hx'
      have hnn : (FloatKind.f64.format.order x x != some .eq) = false := HS.out k x hx
      have z0 : (0 : Int) ≤ (k : Int) := by omega
      have z1 : (k : Int) < (xs.length : Int) := by omega
      clear hx hx'
      go_wp2
      go_quiet (fail)
      go_wp2
      go_roundw
      case rel => exact ⟨k + 1, _, by omega, by go_num, rfl⟩
      case measure => simp [intOf]; omega
    · obtain rfl : xs.length = k := by omega
      go_wp2
      go_ret
      exact ⟨rfl, _, rfl⟩

theorem own_empty (W : World) (n base : Nat) (t : TypeId) (hb : base ≤ W.heap.size) (hn : W.heap.size = n) : (W.alloc (.cells #[] t)).ownsRow base t 1 (.slice (some ⟨n, 0, none⟩) 0 0) 0 [] := by
  subst hn
  exact World.ownsRow_lit W #[] 0 hb (Nat.zero_le _) rfl
/-- A list of the call's own. -/
def Own (w : World) (xs : List Nat) (e : Ending) (w' : World) : Prop := ∃ A c, e = .returned (.slice A xs.length c) ∧ Flo w' A xs ∧ Below w.heap.size w w'
set_option maxRecDepth 100000 in
theorem joined7_any (A A' : Option Addr) (n n' c c' : Nat) (xs ys : List Nat) (hx : xs.length = n) (hy : ys.length = n') (hm : n + n' ≤ 1000) (w : World) (h : Reads w w.heap.size 1 A n (floats xs)) (h' : Reads w w.heap.size 1 A' n' (floats ys)) :
    Calls Try.prog 17 #[.slice A n c, .slice A' n' c'] w (Own w (xs ++ ys)) := by
  obtain ⟨i3, hi3, hz3, hz3', hz3''⟩ := info_parts info_float
  have HR := Lib.hid h
  have HR' := Lib.hid h'
  clear h h'
  go_enter Try.func17, Try.ntmps17
  go_wp2_with (first
    | (at_builtin; refine wpList_append_any _ rfl (.tmp 5) (.tmp 6) _ rfl w.heap.size 22 i3 _ 1 8 Try.underlying34 hi3 hz3 hz3' hz3'' rfl (by omega) (.slice (some ⟨w.heap.size, 0, none⟩) 0 0) 0 [] rfl (own_empty w _ _ _ (Nat.le_refl _) rfl) w.heap.size A n c (floats xs) rfl (HR.out.below ((Below.refl _ _).alloc (Nat.le_refl _) _)) (floats_one xs) (by simp only [maxLen]; omega) (by omega) (by simp) ?_; intro v1 w1 hown1 hg1 hat1; have hb1 : Below w.heap.size w w1 := ((Below.refl _ _).alloc (Nat.le_refl _) _).grown hg1 (by simp) (by simp [Value.ownBlock]))
    | (at_builtin; refine wpList_append_any w1 rfl (.tmp 7) (.tmp 8) _ rfl w.heap.size 22 i3 _ 1 8 Try.underlying34 hi3 hz3 hz3' hz3'' rfl (by omega) v1 (0 + n) ([] ++ floats xs) rfl hown1 w.heap.size A' n' c' (floats ys) rfl (HR'.out.below hb1) (floats_one ys) (by simp only [maxLen]; omega) (by omega) hb1.size ?_; intro v2 w2 hown2 hg2 hat2))
  have hb2 : Below w.heap.size w w2 := hb1.grown hg2 hb1.size (fun a ha => (hown1.lt a ha).1)
  have hown3 : w2.ownsRow w.heap.size 22 1 v2 (xs ++ ys).length (floats (xs ++ ys)) := by
    have e1 : (xs ++ ys).length = 0 + n + n' := by simp; omega
    have e2 : floats (xs ++ ys) = [] ++ floats xs ++ floats ys := by simp [floats]
    rw [e1, e2]
    exact hown2
  obtain ⟨Ao, co, rfl, hco⟩ := own_form hown3
  have hro : Hid (Flo w2 Ao (xs ++ ys)) := Reads.of_own hown3
  have HB2 := Lib.hid hb2
  clear hb1 hown1 hg1 hat1 hown2 hg2 hat2 hb2 hown3
  go_ret
  exact ⟨_, _, rfl, hro.out, HB2.out⟩
end Go.Proofs.Ytnnmdceppjmooaa
