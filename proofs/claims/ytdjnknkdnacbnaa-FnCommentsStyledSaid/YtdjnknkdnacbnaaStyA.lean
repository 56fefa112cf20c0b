/-
  Texts of comments: how they begin, and how they are styled. Conditions: none.
-/
import Derived.Test.YtdjnknkdnacbnaaFodB
import Derived.WalkLawsBesides
import Derived.Lib.Strings
namespace Go.Proofs.Ytdjnknkdnacbnaa
open Go.RowKit
set_option linter.unusedVariables false

theorem ret_str {a b : ByteArray} (h : a = b) : Ending.returned (.string a) = .returned (.string b) := by rw [h]
def stB (s t : ByteArray) : Bool := decide (t.size ≤ s.size) && ((s.extract 0 t.size).toList == t.toList)
theorem starts_is (r : Bool) (s t : ByteArray) (w : World) (hs : s.size ≤ 200) (ht : t.size ≤ 2) (hr : stB s t = r) :
    Calls Try.prog 27 #[.string s, .int .i64 0, .string t] w fun e w' => e = .returned (.bool r) ∧ w = w' := by
  have Hr := Lib.hid hr
  clear hr
  by_cases h : t.size ≤ s.size
  · go_enter Try.func27, Try.ntmps27
    go_wp2
    go_ret
    exact ⟨ret_bool (by rw [← Hr.out]; simp [stB, h]), rfl⟩
  · go_enter Try.func27, Try.ntmps27
    go_wp2
    go_ret
    exact ⟨ret_bool (by rw [← Hr.out]; simp [stB, h]), rfl⟩
def cSl : ByteArray := ⟨#[47, 47]⟩
def cHa : ByteArray := ⟨#[35]⟩
def cBa : ByteArray := ⟨#[35, 33]⟩
def stl (st : Int) (s : ByteArray) : ByteArray :=
  if st = 0 ∧ stB s cSl = true then cHa ++ s.extract 2 s.size else if st = 1 ∧ stB s cHa = true ∧ stB s cBa = false then cSl ++ s.extract 1 s.size else s
theorem stB_le {s t : ByteArray} (h : stB s t = true) : t.size ≤ s.size := by
  simp only [stB, Bool.and_eq_true, decide_eq_true_eq] at h
  exact h.1

theorem styled_any (s : ByteArray) (st : Int) (w : World) (hs : s.size ≤ 200) :
    Calls Try.prog 21 #[.string s, .int .i64 st] w fun e w' => e = .returned (.string (stl st s)) ∧ w = w' := by
  by_cases h0 : st = 0
  · subst h0
    cases h1 : stB s cSl
    · have H1 := Lib.hid h1
      clear h1
      go_enter Try.func21, Try.ntmps21
      go_wp2_with (go_at_call 27; refine (starts_is false s cSl _ hs (by decide) H1.out).mono ?_; rintro e' w' ⟨rfl, rfl⟩)
      go_ret
      exact ⟨ret_str (by simp [stl, H1.out]), rfl⟩
    · have H1 := Lib.hid h1
      have h2 : 2 ≤ s.size := stB_le h1
      clear h1
      go_enter Try.func21, Try.ntmps21
      go_wp2_with (go_at_call 27; refine (starts_is true s cSl _ hs (by decide) H1.out).mono ?_; rintro e' w' ⟨rfl, rfl⟩)
      go_ret
      exact ⟨ret_str (by simp [stl, H1.out, cHa]), rfl⟩
  have d0 : (st == 0) = false := by simp; omega
  by_cases h1 : st = 1
  · subst h1
    cases h2 : stB s cHa
    · have H2 := Lib.hid h2
      clear h2
      go_enter Try.func21, Try.ntmps21
      go_wp2_with (go_at_call 27; refine (starts_is false s cHa _ hs (by decide) H2.out).mono ?_; rintro e' w' ⟨rfl, rfl⟩)
      go_ret
      exact ⟨ret_str (by simp [stl, H2.out]), rfl⟩
    · have hz : 1 ≤ s.size := stB_le h2
      have H2 := Lib.hid h2
      clear h2
      cases h3 : stB s cBa
      · have H3 := Lib.hid h3
        clear h3
        go_enter Try.func21, Try.ntmps21
        go_wp2_with fail
        go_at_call 27
        refine (starts_is true s ⟨#[35]⟩ _ hs (by decide) H2.out).mono ?_
        rintro e' w' ⟨rfl, rfl⟩
        go_wp2_with fail
        go_at_call 27
        refine (starts_is false s ⟨#[35, 33]⟩ _ hs (by decide) H3.out).mono ?_
        rintro e' w' ⟨rfl, rfl⟩
        go_wp2
        go_ret
        exact ⟨ret_str (by simp [stl, H2.out, H3.out, cSl]), rfl⟩
      · have H3 := Lib.hid h3
        clear h3
        go_enter Try.func21, Try.ntmps21
        go_wp2_with fail
        go_at_call 27
        refine (starts_is true s ⟨#[35]⟩ _ hs (by decide) H2.out).mono ?_
        rintro e' w' ⟨rfl, rfl⟩
        go_wp2_with fail
        go_at_call 27
        refine (starts_is true s ⟨#[35, 33]⟩ _ hs (by decide) H3.out).mono ?_
        rintro e' w' ⟨rfl, rfl⟩
        go_wp2
        go_ret
        exact ⟨ret_str (by simp [stl, H2.out, H3.out]), rfl⟩
  · have d1 : (st == 1) = false := by simp; omega
    go_enter Try.func21, Try.ntmps21
    go_wp2
    go_ret
    exact ⟨ret_str (by simp [stl, h0, h1]), rfl⟩
end Go.Proofs.Ytdjnknkdnacbnaa
