/-
  IsIdentifier answers as IsName and not IsWord, on every text. Conditions: none.
-/
import Derived.Test.YtcehhkpeleaeaaaIdentA
import Derived.WalkKit
import Derived.WalkSpells
import Derived.Laws.RangeAny
import Derived.Lib.Hide
import Derived.Outline
import Derived.Lib.Strings
import Derived.Lib.OthersKept
namespace Go.Proofs.Ytcehhkpeleaeaaa
open Go.RowKit

/-! ### words -/
def wd (k : Nat) : ByteArray := ⟨(kws.getD k []).toArray⟩
def Words (B : Nat) (w : World) : Prop := ∀ k, k < 18 → w.cell? ⟨B, k, none⟩ = some (.string (wd k))
def wordCells : List Value := (List.range 18).map fun k => .string (wd k)

theorem words_any (w : World) : Calls Try.prog 10 #[] w fun e w' => e = .returned (.slice (some ⟨w.heap.size, 0, none⟩) 18 18) ∧ Words w.heap.size w' ∧ Below w.heap.size w w' := by
  go_enter Try.func10, Try.ntmps10
  go_wp2
  go_ret
  refine ⟨rfl, ?_, (Below.refl _ _).alloc (Nat.le_refl _) _⟩
  intro k hk
  match k, hk with
  | 0, _ => simp [go_sem]; rfl
  | 1, _ => simp [go_sem]; rfl
  | 2, _ => simp [go_sem]; rfl
  | 3, _ => simp [go_sem]; rfl
  | 4, _ => simp [go_sem]; rfl
  | 5, _ => simp [go_sem]; rfl
  | 6, _ => simp [go_sem]; rfl
  | 7, _ => simp [go_sem]; rfl
  | 8, _ => simp [go_sem]; rfl
  | 9, _ => simp [go_sem]; rfl
  | 10, _ => simp [go_sem]; rfl
  | 11, _ => simp [go_sem]; rfl
  | 12, _ => simp [go_sem]; rfl
  | 13, _ => simp [go_sem]; rfl
  | 14, _ => simp [go_sem]; rfl
  | 15, _ => simp [go_sem]; rfl
  | 16, _ => simp [go_sem]; rfl
  | 17, _ => simp [go_sem]; rfl
  | n + 18, h => omega

def NoneUpto (s : ByteArray) (k : Nat) : Prop := ∀ j, j < k → ¬ (wd j).toList = s.toList

theorem wd_list (k : Nat) : (wd k).toList = kws.getD k [] := by rw [Lib.toList_data]; rfl
theorem isKw_yes {s : ByteArray} {k : Nat} (hk : k < 18) (h : ((wd k).toList == s.toList) = true) : isKw s = true := by
  have e : (wd k).toList = s.toList := eq_of_beq h
  rw [wd_list] at e
  unfold isKw
  rw [List.contains_iff_mem, ← e, List.getD_eq_getElem?_getD, List.getElem?_eq_getElem (show k < kws.length from hk)]
  exact List.getElem_mem _
theorem isKw_no {s : ByteArray} (h : NoneUpto s 18) : isKw s = false := by
  rw [Bool.eq_false_iff]
  intro hc
  unfold isKw at hc
  rw [List.contains_iff_mem] at hc
  obtain ⟨j, hj, e⟩ := List.getElem_of_mem hc
  refine h j hj ?_
  rw [wd_list, List.getD_eq_getElem?_getD, List.getElem?_eq_getElem hj]
  exact e
theorem none_succ {s : ByteArray} {k : Nat} (h : NoneUpto s k) (hk : ((wd k).toList == s.toList) = false) : NoneUpto s (k + 1) := fun j hj e => by
  by_cases ej : j = k
  · subst ej; rw [e] at hk; simp at hk
  · exact h j (by omega) e

theorem isWord_any (s : ByteArray) (w : World) : Calls Try.prog 6 #[.string s] w fun e w' => e = .returned (.bool (isKw s)) ∧ Below w.heap.size w w' := by
  go_enter Try.func6, Try.ntmps6
  go_wp2_with (go_at_call 10; refine (words_any _).mono ?_; rintro e w1 ⟨rfl, hw, hb⟩)
  have HW := Lib.hid hw
  clear hw
  go_loop [4] (fun i => ∃ k : Nat, k ≤ 18 ∧ i = .int .i64 k ∧ NoneUpto s k) (fun i => 18 - (intOf i).toNat)
  case atStart => exact ⟨0, by omega, rfl, fun j h => absurd h (by omega)⟩
  case round =>
    obtain ⟨k, hk, rfl, hu⟩ := hrel
    have Hu := Lib.hid hu
    clear hu
    by_cases hlt : k < 18
    · have hc := HW.out k hlt
      go_wp2
      · go_ret
        exact ⟨ret_bool (isKw_yes hlt (by assumption)).symm, hb⟩
      · have hne : ((wd k).toList == s.toList) = false := by assumption
        go_round
        case rel => exact ⟨k + 1, by omega, by go_num, none_succ Hu.out hne⟩
        case measure => simp [intOf]; omega
    · have hn : k = 18 := by omega
      subst hn
      go_wp2
      go_ret
      exact ⟨ret_bool (isKw_no Hu.out).symm, hb⟩
/-! ### the program's own -/
theorem letterN_high {c : Int} (h : 128 ≤ c) : letterN c = false := letterN_f (by omega)
theorem goodN_high {c : Int} (h : 128 ≤ c) : goodN c = false := by unfold goodN; rw [letterN_f (by omega), digitN_f (by omega)]; rfl

set_option maxHeartbeats 800000 in
theorem valid_any (s : ByteArray) (w : World) (hs : s.size ≤ 2000) : Calls Try.prog 7 #[.string s] w fun e w' => e = .returned (.bool (nameB s && !isKw s)) ∧ Below w.heap.size w w' := by
  by_cases hz : s.size = 0
  · have hn : (nameB s && !isKw s) = false := by simp [nameB, hz]
    have Hn := Lib.hid hn
    clear hn
    have hz' : ((s.size : Int) == 0) = true := by simp [hz]
    go_enter Try.func7, Try.ntmps7
    go_wp2
    go_ret
    exact ⟨ret_bool (by rw [Hn.out]), Below.refl _ _⟩
  · have hz' : ((s.size : Int) == 0) = false := beq_eq_false_iff_ne.2 (by omega)
    have Hz := Lib.hid hz
    clear hz
    go_enter Try.func7, Try.ntmps7
    go_wp2
    go_loopw [3] (fun _ wr => ∃ pos : Nat, pos ≤ s.size ∧ wr = w.iter s pos ∧ Upto s pos) (fun _ wr => s.size - wr.iterPos w.heap.size)
    case atStart => exact ⟨0, Nat.zero_le _, rfl, upto_zero s⟩
    case round =>
      obtain ⟨k, hk, rfl, hu⟩ := hrel
      have Hu := Lib.hid hu
      clear hu
      have hbel : Below w.heap.size w (w.iter s k) := (Below.refl _ _).alloc (Nat.le_refl _) _
      by_cases hlt : k < s.size
      · have Hb := Lib.hid (byteAt_eq s k hlt)
        by_cases ha : (s[k].toNat : Int) < 128
        · have hnext := fun ty => run_next_ascii (P := Try.prog) w s k ty hlt (by omega)
          by_cases h0 : k = 0
          · have h0' : ((k : Int) == 0) = true := by rw [h0]; rfl
            have H0 := Lib.hid h0
            clear h0
            cases hl : letterN (s[k].toNat : Int)
            · have hn : nameB s = false := nameB_no hlt (by unfold okAt; rw [Hb.out, hl]; simp [H0.out])
              have Hn := Lib.hid hn
              clear hn
              go_wp2_with (first | (go_at_call 11; refine (first_any _ _).mono ?_; rintro e w' ⟨rfl, rfl⟩) | (go_at_call 12; refine (good_any _ _).mono ?_; rintro e w' ⟨rfl, rfl⟩))
              go_ret
              exact ⟨ret_bool (by rw [Hn.out]; rfl), (Below.refl _ _).alloc (Nat.le_refl _) _⟩
            · have ho : okAt s k = true := by unfold okAt; rw [Hb.out, hl]; rfl
              have Ho := Lib.hid ho
              clear ho
              go_wp2_with (first | (go_at_call 11; refine (first_any _ _).mono ?_; rintro e w' ⟨rfl, rfl⟩) | (go_at_call 12; refine (good_any _ _).mono ?_; rintro e w' ⟨rfl, rfl⟩))
              go_roundw
              case rel => exact ⟨k + 1, by omega, rfl, upto_succ Hu.out Ho.out⟩
              case measure => simp; omega
          · have h0' : ((k : Int) == 0) = false := beq_eq_false_iff_ne.2 (by omega)
            cases hl : goodN (s[k].toNat : Int)
            · have hn : nameB s = false := nameB_no hlt (by unfold okAt; rw [Hb.out]; unfold goodN at hl; rw [Bool.or_eq_false_iff] at hl; rw [hl.1, hl.2]; simp)
              have Hn := Lib.hid hn
              clear hn
              go_wp2_with (first | (go_at_call 11; refine (first_any _ _).mono ?_; rintro e w' ⟨rfl, rfl⟩) | (go_at_call 12; refine (good_any _ _).mono ?_; rintro e w' ⟨rfl, rfl⟩))
              go_ret
              exact ⟨ret_bool (by rw [Hn.out]; rfl), (Below.refl _ _).alloc (Nat.le_refl _) _⟩
            · have ho : okAt s k = true := by unfold okAt; rw [Hb.out]; unfold goodN at hl; rw [decide_eq_true (show 0 < k by omega)]; simpa using hl
              have Ho := Lib.hid ho
              clear ho
              go_wp2_with (first | (go_at_call 11; refine (first_any _ _).mono ?_; rintro e w' ⟨rfl, rfl⟩) | (go_at_call 12; refine (good_any _ _).mono ?_; rintro e w' ⟨rfl, rfl⟩))
              go_roundw
              case rel => exact ⟨k + 1, by omega, rfl, upto_succ Hu.out Ho.out⟩
              case measure => simp; omega
        · have hnext := fun ty => run_next_any (P := Try.prog) w s k ty hlt
          have hr := (decode_high s k hlt (by omega)).1
          have hl := letterN_high (c := ((Utf8.decode s k).1 : Int)) (by omega)
          have hg := goodN_high (c := ((Utf8.decode s k).1 : Int)) (by omega)
          have hb1 := letterN_high (c := (s[k].toNat : Int)) (by omega)
          have hb2 : digitN (s[k].toNat : Int) = false := digitN_f (by omega)
          have hn : nameB s = false := nameB_no hlt (by unfold okAt; rw [Hb.out, hb1, hb2]; simp)
          have Hn := Lib.hid hn
          clear hn hb1 hb2
          by_cases h0 : k = 0
          · have h0' : ((k : Int) == 0) = true := by rw [h0]; rfl
            have H0 := Lib.hid h0
            clear h0
            go_wp2_with (first | (go_at_call 11; refine (first_any _ _).mono ?_; rintro e w' ⟨rfl, rfl⟩) | (go_at_call 12; refine (good_any _ _).mono ?_; rintro e w' ⟨rfl, rfl⟩))
            go_ret
            exact ⟨ret_bool (by rw [Hn.out]; rfl), (Below.refl _ _).alloc (Nat.le_refl _) _⟩
          · have h0' : ((k : Int) == 0) = false := beq_eq_false_iff_ne.2 (by omega)
            go_wp2_with (first | (go_at_call 11; refine (first_any _ _).mono ?_; rintro e w' ⟨rfl, rfl⟩) | (go_at_call 12; refine (good_any _ _).mono ?_; rintro e w' ⟨rfl, rfl⟩))
            go_ret
            exact ⟨ret_bool (by rw [Hn.out]; rfl), (Below.refl _ _).alloc (Nat.le_refl _) _⟩
      · have hnext := fun ty => run_next_end (P := Try.prog) w s k ty hlt
        have hn : nameB s = true := nameB_yes (by have := Hz.out; omega) (by have := Hu.out; rwa [show k = s.size by omega] at this)
        have Hn := Lib.hid hn
        clear hn
        cases hk : isKw s
        · go_wp2_with (go_at_call 13; refine (kind_no _ _ hk).mono ?_; rintro e w' ⟨rfl, rfl⟩)
          go_ret
          exact ⟨ret_bool (by rw [Hn.out, hk]; rfl), hbel⟩
        · go_wp2_with (go_at_call 13; refine (kind_yes _ _ hk).mono ?_; rintro e w' ⟨n, hn, rfl, rfl⟩)
          go_ret
          exact ⟨ret_bool (by rw [Hn.out, hk]; rfl), hbel⟩
end Go.Proofs.Ytcehhkpeleaeaaa
