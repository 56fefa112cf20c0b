/-
  The functions of the operators' texts: what each computes. Conditions: none.
-/
import Derived.Test.YtcehhkpeleaeaaaDoorRows
import Derived.WalkKit
import Derived.WalkSpells
import Derived.Lib.Hide
import Derived.Outline
import Derived.Lib.Strings
namespace Go.Proofs.YtcehhkpeleaeaaaDoor
open Go.RowKit

theorem ret_bool {a b : Bool} (h : a = b) : Ending.returned (.bool a) = .returned (.bool b) := by rw [h]

theorem ret_int {k : IntKind} {a b : Int} (h : a = b) : Ending.returned (.int k a) = .returned (.int k b) := by rw [h]

/-- The operators' texts, by the numbers 1 to 19, and nothing at 0. -/
def signL : List (List UInt8) := [[], [42], [47], [37], [43], [45], [60, 60], [62, 62], [60], [60, 61], [62], [62, 61], [105, 110], [61, 61], [33, 61], [38], [94], [124], [38, 38], [124, 124]]
def sg (k : Nat) : ByteArray := ⟨(signL.getD k []).toArray⟩
def levL : List Int := [3, 3, 3, 4, 4, 5, 5, 6, 6, 6, 6, 6, 7, 7, 8, 9, 10, 11, 12]
def lv (k : Nat) : Int := levL.getD k 0
/-- The package's own numbers of the operators. -/
def binL : List Int := [0, 0, 1, 2, 3, 4, 5, 6, 9, 10, 7, 8, 11, 12, 13, 14, 15, 16, 17, 18]
def bn (k : Nat) : Int := binL.getD k 0
def bopL : List (List UInt8) := [[42], [47], [37], [43], [45], [60, 60], [62, 62], [62], [62, 61], [60], [60, 61], [105, 110], [61, 61], [33, 61], [38], [94], [124], [38, 38], [124, 124]]
def bs (k : Nat) : ByteArray := ⟨(bopL.getD k []).toArray⟩

/-! ### Signs -/
def signCells : Array Value := #[.string ⟨#[]⟩, .string ⟨#[42]⟩, .string ⟨#[47]⟩, .string ⟨#[37]⟩, .string ⟨#[43]⟩, .string ⟨#[45]⟩, .string ⟨#[60, 60]⟩, .string ⟨#[62, 62]⟩, .string ⟨#[60]⟩, .string ⟨#[60, 61]⟩, .string ⟨#[62]⟩, .string ⟨#[62, 61]⟩, .string ⟨#[105, 110]⟩, .string ⟨#[61, 61]⟩, .string ⟨#[33, 61]⟩, .string ⟨#[38]⟩, .string ⟨#[94]⟩, .string ⟨#[124]⟩, .string ⟨#[38, 38]⟩, .string ⟨#[124, 124]⟩]
theorem signs_cell (w : World) (k : Nat) (hk : k < 20) : (w.alloc (.cells #[.string ⟨#[]⟩, .string ⟨#[42]⟩, .string ⟨#[47]⟩, .string ⟨#[37]⟩, .string ⟨#[43]⟩, .string ⟨#[45]⟩, .string ⟨#[60, 60]⟩, .string ⟨#[62, 62]⟩, .string ⟨#[60]⟩, .string ⟨#[60, 61]⟩, .string ⟨#[62]⟩, .string ⟨#[62, 61]⟩, .string ⟨#[105, 110]⟩, .string ⟨#[61, 61]⟩, .string ⟨#[33, 61]⟩, .string ⟨#[38]⟩, .string ⟨#[94]⟩, .string ⟨#[124]⟩, .string ⟨#[38, 38]⟩, .string ⟨#[124, 124]⟩] 9)).cell? ⟨w.heap.size, k, none⟩ = some (.string (sg k)) := by
  match k, hk with
  | 0, _ => simp [go_sem]; rfl
  | 1, _ => simp [go_sem]; rfl
  | 2, _ => simp [go_sem]; rfl
  | 3, _ => simp [go_sem]; rfl
  | 4, _ => simp [go_sem]; rfl
  | 5, _ => simp [go_sem]; rfl
  | 6, _ => simp [go_sem]; rfl
  | 7, _ => simp [go_sem]; rfl
  | 8, _ => simp [go_sem]; rfl
  | 9, _ => simp [go_sem]; rfl
  | 10, _ => simp [go_sem]; rfl
  | 11, _ => simp [go_sem]; rfl
  | 12, _ => simp [go_sem]; rfl
  | 13, _ => simp [go_sem]; rfl
  | 14, _ => simp [go_sem]; rfl
  | 15, _ => simp [go_sem]; rfl
  | 16, _ => simp [go_sem]; rfl
  | 17, _ => simp [go_sem]; rfl
  | 18, _ => simp [go_sem]; rfl
  | 19, _ => simp [go_sem]; rfl
  | n + 20, h => omega
theorem signs_any (k : Nat) (hk : k < 20) (w : World) : Calls Tryd.prog 4 #[.int .i64 k] w fun e w' => e = .returned (.string (sg k)) ∧ Below w.heap.size w w' := by
  have hc := signs_cell w k hk
  go_enter Tryd.func4, Tryd.ntmps4
  go_wp2
  go_ret
  exact ⟨rfl, (Below.refl _ _).alloc (Nat.le_refl _) _⟩

/-! ### binaries -/
def Bins (B : Nat) (w : World) : Prop := ∀ k, k < 20 → w.cell? ⟨B, k, none⟩ = some (.int .i64 (bn k))
theorem bins_any (w : World) : Calls Tryd.prog 12 #[] w fun e w' => e = .returned (.slice (some ⟨w.heap.size, 0, none⟩) 20 20) ∧ Bins w.heap.size w' ∧ Below w.heap.size w w' := by
  go_enter Tryd.func12, Tryd.ntmps12
  go_wp2
  go_ret
  refine ⟨rfl, ?_, (Below.refl _ _).alloc (Nat.le_refl _) _⟩
  intro k hk
  match k, hk with
  | 0, _ => simp [go_sem]; rfl
  | 1, _ => simp [go_sem]; rfl
  | 2, _ => simp [go_sem]; rfl
  | 3, _ => simp [go_sem]; rfl
  | 4, _ => simp [go_sem]; rfl
  | 5, _ => simp [go_sem]; rfl
  | 6, _ => simp [go_sem]; rfl
  | 7, _ => simp [go_sem]; rfl
  | 8, _ => simp [go_sem]; rfl
  | 9, _ => simp [go_sem]; rfl
  | 10, _ => simp [go_sem]; rfl
  | 11, _ => simp [go_sem]; rfl
  | 12, _ => simp [go_sem]; rfl
  | 13, _ => simp [go_sem]; rfl
  | 14, _ => simp [go_sem]; rfl
  | 15, _ => simp [go_sem]; rfl
  | 16, _ => simp [go_sem]; rfl
  | 17, _ => simp [go_sem]; rfl
  | 18, _ => simp [go_sem]; rfl
  | 19, _ => simp [go_sem]; rfl
  | n + 20, h => omega

theorem bin_yes (k : Nat) (h1 : 1 ≤ k) (hk : k < 20) (w : World) : Calls Tryd.prog 8 #[.int .i64 k] w fun e w' => e = .returned (.tuple #[.int .i64 (bn k), .bool true]) ∧ Below w.heap.size w w' := by
  go_enter Tryd.func8, Tryd.ntmps8
  go_wp2_with (go_at_call 12; refine (bins_any _).mono ?_; rintro e w1 ⟨rfl, hw, hb⟩; have hc := hw k hk; clear hw)
  go_ret2
  exact ⟨rfl, hb⟩
theorem bin_no (k : Int) (h : k < 1 ∨ 20 ≤ k) (w : World) : Calls Tryd.prog 8 #[.int .i64 k] w fun e w' => e = .returned (.tuple #[.int .i64 0, .bool false]) ∧ Below w.heap.size w w' := by
  rcases h with h | h
  all_goals
    go_enter Tryd.func8, Tryd.ntmps8
    go_wp2_with (go_at_call 12; refine (bins_any _).mono ?_; rintro e w1 ⟨rfl, hw, hb⟩; clear hw)
    go_ret2
    exact ⟨rfl, hb⟩

/-! ### the number of an operator -/
theorem bn_inj : ∀ j, j < 20 → ∀ k, k < 20 → 0 < j → 0 < k → bn j = bn k → j = k := by decide
theorem number_any (n : Nat) (h1 : 1 ≤ n) (hn : n < 20) (w : World) : Calls Tryd.prog 11 #[.int .i64 (bn n)] w fun e w' => e = .returned (.int .i64 n) ∧ Below w.heap.size w w' := by
  obtain ⟨x, hx⟩ : ∃ x, x = bn n := ⟨_, rfl⟩
  have Hx := Lib.hid hx
  rw [← hx]
  clear hx
  go_enter Tryd.func11, Tryd.ntmps11
  go_wp2_with (go_at_call 12; refine (bins_any _).mono ?_; rintro e w1 ⟨rfl, hw, hb⟩)
  have HW := Lib.hid hw
  clear hw
  go_loop [3, 4, 7] (fun _ _ i => ∃ k : Nat, k ≤ n ∧ i = .int .i64 k) (fun _ _ i => 20 - (intOf i).toNat)
  case atStart => exact ⟨0, by omega, rfl⟩
  case round =>
    obtain ⟨k, hk, rfl⟩ := hrel
    have hc := HW.out k (by omega)
    by_cases hkn : k = n
    · have hxe : (bn k == x) = true := by rw [hkn, Hx.out]; simp
      have h0 : 0 < k := by omega
      have Hk := Lib.hid hkn
      clear hkn
      go_wp2
      go_ret
      exact ⟨ret_int (by rw [Hk.out]), hb⟩
    · by_cases h0 : k = 0
      · subst h0
        go_wp2
        go_round
        case rel => exact ⟨1, by omega, rfl⟩
        case measure => simp [intOf]
      · have hxe : (bn k == x) = false := by
          rw [Hx.out]; exact beq_eq_false_iff_ne.2 (fun e => hkn (bn_inj k (by omega) n hn (by omega) h1 e))
        have Hkn := Lib.hid hkn
        clear hkn
        go_wp2
        all_goals
          go_round
          case rel => exact ⟨k + 1, by have := Hkn.out; omega, by go_num⟩
          case measure => simp [intOf]; omega

/-! ### the package's texts, and what binds -/
theorem text_any (k : Nat) (hk : k < 19) (w : World) (g : Addr) (hg : w.cell? ⟨0, 0, none⟩ = some (.slice (some ⟨g.block, g.off, none⟩) 19 19)) (hc : w.cell? ⟨g.block, g.off + k, none⟩ = some (.string (bs k))) :
    Calls Tryd.prog 9 #[.int .i64 k] w fun e w' => e = .returned (.string (bs k)) ∧ w = w' := by
  go_enter Tryd.func9, Tryd.ntmps9
  go_wp2
  go_ret
  exact ⟨rfl, rfl⟩

/-- The place of a text among the operators': 1 to 19, or 0. -/
def placeL (l : List UInt8) : Nat := if signL.idxOf l < 20 then signL.idxOf l else 0
def place (s : ByteArray) : Nat := placeL s.toList
theorem sg_list (k : Nat) : (sg k).toList = signL.getD k [] := by rw [Lib.toList_data]; rfl
theorem place_all : ∀ k, k < 20 → placeL (signL.getD k []) = k := by decide
theorem place_yes {s : ByteArray} {k : Nat} (hk : k < 20) (h : ((sg k).toList == s.toList) = true) : place s = k := by
  have e : (sg k).toList = s.toList := eq_of_beq h
  unfold place
  rw [← e, sg_list]
  exact place_all k hk
def NoneUpto (s : ByteArray) (k : Nat) : Prop := ∀ j, j < k → ¬ (sg (j + 1)).toList = s.toList
theorem none_succ {s : ByteArray} {k : Nat} (h : NoneUpto s k) (hk : ((sg (k + 1)).toList == s.toList) = false) : NoneUpto s (k + 1) := fun j hj e => by
  by_cases ej : j = k
  · subst ej; rw [e] at hk; simp at hk
  · exact h j (by omega) e
theorem place_no {s : ByteArray} (h : NoneUpto s 19) : place s = 0 := by
  unfold place placeL
  by_cases hm : s.toList ∈ signL
  · obtain ⟨j, hj, e⟩ := List.getElem_of_mem hm
    have ej : signL.getD j [] = s.toList := by rw [List.getD_eq_getElem?_getD, List.getElem?_eq_getElem hj]; exact e
    have hj' : j < 20 := hj
    by_cases h0 : j = 0
    · have := place_all j hj'
      rw [ej, h0] at this
      exact this
    · exact absurd (by rw [show j - 1 + 1 = j by omega, sg_list, ej]) (h (j - 1) (by omega))
  · rw [List.idxOf_eq_length hm]
    rfl
theorem names_cell (w : World) (k : Nat) (hk : k < 19) : (w.alloc (.cells #[.string ⟨#[42]⟩, .string ⟨#[47]⟩, .string ⟨#[37]⟩, .string ⟨#[43]⟩, .string ⟨#[45]⟩, .string ⟨#[60, 60]⟩, .string ⟨#[62, 62]⟩, .string ⟨#[60]⟩, .string ⟨#[60, 61]⟩, .string ⟨#[62]⟩, .string ⟨#[62, 61]⟩, .string ⟨#[105, 110]⟩, .string ⟨#[61, 61]⟩, .string ⟨#[33, 61]⟩, .string ⟨#[38]⟩, .string ⟨#[94]⟩, .string ⟨#[124]⟩, .string ⟨#[38, 38]⟩, .string ⟨#[124, 124]⟩] 9)).cell? ⟨w.heap.size, k, none⟩ = some (.string (sg (k + 1))) := by
  match k, hk with
  | 0, _ => simp [go_sem]; rfl
  | 1, _ => simp [go_sem]; rfl
  | 2, _ => simp [go_sem]; rfl
  | 3, _ => simp [go_sem]; rfl
  | 4, _ => simp [go_sem]; rfl
  | 5, _ => simp [go_sem]; rfl
  | 6, _ => simp [go_sem]; rfl
  | 7, _ => simp [go_sem]; rfl
  | 8, _ => simp [go_sem]; rfl
  | 9, _ => simp [go_sem]; rfl
  | 10, _ => simp [go_sem]; rfl
  | 11, _ => simp [go_sem]; rfl
  | 12, _ => simp [go_sem]; rfl
  | 13, _ => simp [go_sem]; rfl
  | 14, _ => simp [go_sem]; rfl
  | 15, _ => simp [go_sem]; rfl
  | 16, _ => simp [go_sem]; rfl
  | 17, _ => simp [go_sem]; rfl
  | 18, _ => simp [go_sem]; rfl
  | n + 19, h => omega
theorem levels_cell (w : World) (k : Nat) (hk : k < 19) : (w.alloc (.cells #[.int .i64 3, .int .i64 3, .int .i64 3, .int .i64 4, .int .i64 4, .int .i64 5, .int .i64 5, .int .i64 6, .int .i64 6, .int .i64 6, .int .i64 6, .int .i64 6, .int .i64 7, .int .i64 7, .int .i64 8, .int .i64 9, .int .i64 10, .int .i64 11, .int .i64 12] 3)).cell? ⟨w.heap.size, k, none⟩ = some (.int .i64 (lv k)) := by
  match k, hk with
  | 0, _ => simp [go_sem]; rfl
  | 1, _ => simp [go_sem]; rfl
  | 2, _ => simp [go_sem]; rfl
  | 3, _ => simp [go_sem]; rfl
  | 4, _ => simp [go_sem]; rfl
  | 5, _ => simp [go_sem]; rfl
  | 6, _ => simp [go_sem]; rfl
  | 7, _ => simp [go_sem]; rfl
  | 8, _ => simp [go_sem]; rfl
  | 9, _ => simp [go_sem]; rfl
  | 10, _ => simp [go_sem]; rfl
  | 11, _ => simp [go_sem]; rfl
  | 12, _ => simp [go_sem]; rfl
  | 13, _ => simp [go_sem]; rfl
  | 14, _ => simp [go_sem]; rfl
  | 15, _ => simp [go_sem]; rfl
  | 16, _ => simp [go_sem]; rfl
  | 17, _ => simp [go_sem]; rfl
  | 18, _ => simp [go_sem]; rfl
  | n + 19, h => omega

theorem two_worlds (w : World) : ∃ E, E = ((w.alloc (.cells #[.string ⟨#[42]⟩, .string ⟨#[47]⟩, .string ⟨#[37]⟩, .string ⟨#[43]⟩, .string ⟨#[45]⟩, .string ⟨#[60, 60]⟩, .string ⟨#[62, 62]⟩, .string ⟨#[60]⟩, .string ⟨#[60, 61]⟩, .string ⟨#[62]⟩, .string ⟨#[62, 61]⟩, .string ⟨#[105, 110]⟩, .string ⟨#[61, 61]⟩, .string ⟨#[33, 61]⟩, .string ⟨#[38]⟩, .string ⟨#[94]⟩, .string ⟨#[124]⟩, .string ⟨#[38, 38]⟩, .string ⟨#[124, 124]⟩] 9)).alloc (.cells #[.int .i64 3, .int .i64 3, .int .i64 3, .int .i64 4, .int .i64 4, .int .i64 5, .int .i64 5, .int .i64 6, .int .i64 6, .int .i64 6, .int .i64 6, .int .i64 6, .int .i64 7, .int .i64 7, .int .i64 8, .int .i64 9, .int .i64 10, .int .i64 11, .int .i64 12] 3)) ∧ (∀ k, k < 19 → E.cell? ⟨w.heap.size, k, none⟩ = some (.string (sg (k + 1)))) ∧ (∀ k, k < 19 → E.cell? ⟨w.heap.size + 1, k, none⟩ = some (.int .i64 (lv k))) ∧ Below w.heap.size w E := by
  refine ⟨_, rfl, fun k hk => ?_, fun k hk => ?_, ((Below.refl _ _).alloc (Nat.le_refl _) _).alloc (by simp) _⟩
  · have h := names_cell w k hk
    have hb : Below (w.heap.size + 1) (w.alloc (.cells #[.string ⟨#[42]⟩, .string ⟨#[47]⟩, .string ⟨#[37]⟩, .string ⟨#[43]⟩, .string ⟨#[45]⟩, .string ⟨#[60, 60]⟩, .string ⟨#[62, 62]⟩, .string ⟨#[60]⟩, .string ⟨#[60, 61]⟩, .string ⟨#[62]⟩, .string ⟨#[62, 61]⟩, .string ⟨#[105, 110]⟩, .string ⟨#[61, 61]⟩, .string ⟨#[33, 61]⟩, .string ⟨#[38]⟩, .string ⟨#[94]⟩, .string ⟨#[124]⟩, .string ⟨#[38, 38]⟩, .string ⟨#[124, 124]⟩] 9)) ((w.alloc (.cells #[.string ⟨#[42]⟩, .string ⟨#[47]⟩, .string ⟨#[37]⟩, .string ⟨#[43]⟩, .string ⟨#[45]⟩, .string ⟨#[60, 60]⟩, .string ⟨#[62, 62]⟩, .string ⟨#[60]⟩, .string ⟨#[60, 61]⟩, .string ⟨#[62]⟩, .string ⟨#[62, 61]⟩, .string ⟨#[105, 110]⟩, .string ⟨#[61, 61]⟩, .string ⟨#[33, 61]⟩, .string ⟨#[38]⟩, .string ⟨#[94]⟩, .string ⟨#[124]⟩, .string ⟨#[38, 38]⟩, .string ⟨#[124, 124]⟩] 9)).alloc (.cells #[.int .i64 3, .int .i64 3, .int .i64 3, .int .i64 4, .int .i64 4, .int .i64 5, .int .i64 5, .int .i64 6, .int .i64 6, .int .i64 6, .int .i64 6, .int .i64 6, .int .i64 7, .int .i64 7, .int .i64 8, .int .i64 9, .int .i64 10, .int .i64 11, .int .i64 12] 3)) := (Below.refl _ _).alloc (by simp) _
    rw [← h]
    exact hb.cell (p := ⟨w.heap.size, k, none⟩) (by show w.heap.size < w.heap.size + 1; omega)
  · have h := levels_cell (w.alloc (.cells #[.string ⟨#[42]⟩, .string ⟨#[47]⟩, .string ⟨#[37]⟩, .string ⟨#[43]⟩, .string ⟨#[45]⟩, .string ⟨#[60, 60]⟩, .string ⟨#[62, 62]⟩, .string ⟨#[60]⟩, .string ⟨#[60, 61]⟩, .string ⟨#[62]⟩, .string ⟨#[62, 61]⟩, .string ⟨#[105, 110]⟩, .string ⟨#[61, 61]⟩, .string ⟨#[33, 61]⟩, .string ⟨#[38]⟩, .string ⟨#[94]⟩, .string ⟨#[124]⟩, .string ⟨#[38, 38]⟩, .string ⟨#[124, 124]⟩] 9)) k hk
    have e : (w.alloc (.cells #[.string ⟨#[42]⟩, .string ⟨#[47]⟩, .string ⟨#[37]⟩, .string ⟨#[43]⟩, .string ⟨#[45]⟩, .string ⟨#[60, 60]⟩, .string ⟨#[62, 62]⟩, .string ⟨#[60]⟩, .string ⟨#[60, 61]⟩, .string ⟨#[62]⟩, .string ⟨#[62, 61]⟩, .string ⟨#[105, 110]⟩, .string ⟨#[61, 61]⟩, .string ⟨#[33, 61]⟩, .string ⟨#[38]⟩, .string ⟨#[94]⟩, .string ⟨#[124]⟩, .string ⟨#[38, 38]⟩, .string ⟨#[124, 124]⟩] 9)).heap.size = w.heap.size + 1 := by simp
    rw [e] at h
    exact h

/-- What Binds tells. -/
def BindsTo (s : ByteArray) (w : World) (e : Ending) (w' : World) : Prop := ∃ l : Int, e = .returned (.tuple #[.int .i64 l, .int .i64 (place s)]) ∧ Below w.heap.size w w'
theorem binds_any (s : ByteArray) (w : World) : Calls Tryd.prog 7 #[.string s] w (BindsTo s w) := by
  obtain ⟨w1, hE, hn, hl, hb⟩ := two_worlds w
  have HE := Lib.hid hE
  have HN := Lib.hid hn
  have HL := Lib.hid hl
  clear hE hn hl
  go_enter Tryd.func7, Tryd.ntmps7
  go_wp2
  rw [← HE.out]
  clear HE
  go_loop [6] (fun i => ∃ k : Nat, k ≤ 19 ∧ i = .int .i64 k ∧ NoneUpto s k) (fun i => 19 - (intOf i).toNat)
  case atStart => exact ⟨0, by omega, rfl, fun j h => absurd h (by omega)⟩
  case round =>
    obtain ⟨k, hk, rfl, hu⟩ := hrel
    have Hu := Lib.hid hu
    clear hu
    by_cases hlt : k < 19
    · have hc := HN.out k hlt
      have hd := HL.out k hlt
      go_wp2
      · go_ret2
        have hp := place_yes (s := s) (k := k + 1) (by omega) (by assumption)
        exact ⟨lv k, by rw [hp]; rfl, hb⟩
      · have hne : ((sg (k + 1)).toList == s.toList) = false := by assumption
        go_round
        case rel => exact ⟨k + 1, by omega, by go_num, none_succ Hu.out hne⟩
        case measure => simp [intOf]; omega
    · have hk' : k = 19 := by omega
      subst hk'
      go_wp2
      go_ret2
      exact ⟨0, by rw [place_no Hu.out]; rfl, hb⟩
end Go.Proofs.YtcehhkpeleaeaaaDoor
