/-
  Units and units9 tell the numbers of a text's letters, or that it has none. Conditions: a text of at most 10000 bytes (Units).
-/
import Derived.Test.YtohhcmcelofgeaaPoint
import Derived.WalkKit
import Derived.WalkSpells
import Derived.Lib.Hide
import Derived.Outline
import Derived.Laws.OwnMore
namespace Go.Proofs.Ytohhcmcelofgeaa
open Go.RowKit
set_option linter.unusedVariables false

def ints (l : List Nat) : List Value := l.map fun n : Nat => .int .i64 (n : Int)
theorem ints_length (l : List Nat) : (ints l).length = l.length := by simp [ints]
theorem ints_snoc (l : List Nat) (n : Nat) : ints (l ++ [n]) = ints l ++ [.int .i64 (n : Int)] := by simp [ints]

/-- A slice of ints of its own, from block B on, that holds numbers. -/
def Holds (B : Nat) (w : World) (v : Value) (l : List Nat) : Prop := ∃ g cap : Nat, v = .slice (some ⟨g, 0, none⟩) l.length cap ∧ w.ownsRow B 3 1 v l.length (ints l)

def UnitsYes (s : ByteArray) (w : World) (e : Ending) (w' : World) : Prop := ∃ l v, Read s s.size l ∧ e = .returned (.tuple #[v, .bool true]) ∧ Holds w.heap.size w' v l ∧ Below w.heap.size w w'
def UnitsNo (s : ByteArray) (w : World) (e : Ending) (w' : World) : Prop := (∀ l, ¬ Read s s.size l) ∧ e = .returned (.tuple #[.slice none 0 0, .bool false]) ∧ Below w.heap.size w w'

theorem infoI : (Try.prog.info? 3).map (fun i => (i.zero, i.size, i.bytes)) = some (some (.int .i64 0), 1, 8) := by kernel_rfl

theorem form_of {w : World} {B n : Nat} {v : Value} {xs : List Value} (h : w.ownsRow B 3 1 v n xs) (hv : ¬ v = .slice none 0 0) : ∃ g cap : Nat, v = .slice (some ⟨g, 0, none⟩) n cap := by
  obtain ⟨_, ⟨h1, _⟩ | ⟨g, cap, cur, h1, _⟩⟩ := h
  · exact absurd h1 hv
  · exact ⟨g, cap, h1⟩

set_option maxHeartbeats 1000000 in
theorem units_any (s : ByteArray) (hs : s.size ≤ 10000) (w : World) : Calls Try.prog 12 #[.string s] w fun e w' => UnitsYes s w e w' ∨ UnitsNo s w e w' := by
  obtain ⟨i0, hi, hz0, hz1, hz2⟩ := info_parts infoI
  go_enter Try.func12, Try.ntmps12
  go_wp2
  go_loopw [4, 5, 6, 7] (fun v x _ _ wr => ∃ (i : Nat) (l : List Nat), x = .int .i64 i ∧ Read s i l ∧ wr.ownsRow w.heap.size 3 1 v l.length (ints l) ∧ (¬ v = .slice none 0 0) ∧ Below w.heap.size w wr) (fun _ x _ _ _ => s.size - (intOf x).toNat)
  case atStart => exact ⟨0, [], rfl, Read.none, World.ownsRow_lit _ _ 0 (Nat.le_refl _) (by decide) rfl, by simp, (Below.refl _ _).alloc (Nat.le_refl _) _⟩
  case round =>
    obtain ⟨i, l, rfl, hr, hown, hnn, hbel⟩ := hrel
    have hle := hr.le
    have hle1 := hle.1
    have hle2 := hle.2
    have HR := Lib.hid hr
    have HN := Lib.hid hnn
    have hsz := hbel.size
    clear hr hnn hle
    by_cases hlt : i < s.size
    · by_cases hw0 : wide s i = 0
      · have hwb : ((wide s i : Int) == 0) = true := by rw [hw0]; rfl
        have HW := Lib.hid hw0
        clear hw0
        go_wp2_with (go_at_call 19; refine (point_any s i hlt hs _).mono ?_; rintro e w' ⟨rfl, rfl⟩)
        go_ret2
        exact .inr ⟨fun l' => HR.out.stuck hlt HW.out l', rfl, hbel⟩
      · have hwb : ((wide s i : Int) == 0) = false := beq_eq_false_iff_ne.2 (by omega)
        have hw4 := wide_le s i
        have hpt : ptv s i = (pnt s i : Int) := by unfold ptv; rw [if_neg hw0]
        have HP := Lib.hid hpt
        have HW := Lib.hid hw0
        clear hw0 hpt
        go_wp2_with (first | (go_at_call 19; refine (point_any s i hlt hs _).mono ?_; rintro e w' ⟨rfl, rfl⟩) | (at_builtin; refine wpList_append_own _ rfl _ _ 22 rfl w.heap.size 3 i0 (.int .i64 0) 1 8 Try.underlying22 hi hz0 hz1 hz2 rfl (by decide) _ _ _ rfl (hown.alloc _) ⟨wr.heap.size, 0, none⟩ 1 1 [.int .i64 (ptv s i)] rfl rfl ?c1 ?c2 ?c3 ?c4 ?c5 ?_))
        case c1 =>
          intro j u hj
          match j, hj with
          | 0, hj => simp at hj; subst hj; simp [Addr.add]
        case c2 => intro u hu; simp at hu; subst hu; rfl
        case c3 => unfold maxLen; omega
        case c4 => omega
        case c5 => simp; omega
        intro v' w1 hown' hgrow hnil
        have hn' : ¬ v' = .slice none 0 0 := fun e => by first | exact hnil e | exact HN.out (hnil.1 e).1
        have hb1 : Below w.heap.size w w1 := (hbel.alloc hsz _).grown hgrow (by simp; omega) (fun k hk => (hown.lt k hk).1)
        rw [HP.out] at hown'
        have HO := Lib.hid hown'
        have HN' := Lib.hid hn'
        clear hown' hgrow hnil hn' hown
        go_wp2
        go_roundw
        case rel => exact ⟨i + wide s i, l ++ [pnt s i], by go_num, .more HR.out hlt HW.out, by rw [ints_snoc, List.length_append]; exact HO.out, HN'.out, hb1⟩
        case measure => have := HW.out; simp [intOf]; omega
    · have hie : i = s.size := by omega
      have HE := Lib.hid hie
      clear hie
      go_wp2
      go_ret2
      refine .inl ⟨l, _, by have := HR.out; rwa [HE.out] at this, rfl, ?_, hbel⟩
      obtain ⟨g, cap, e⟩ := form_of hown HN.out
      exact ⟨g, cap, e, hown⟩

theorem units9_long (s : ByteArray) (hs : 2000 < s.size) (hm : s.size ≤ maxLen) (w : World) : Calls Try.prog 5 #[.string s] w fun e w' => e = .returned (.tuple #[.slice none 0 0, .bool false]) ∧ w = w' := by
  have hm' : s.size ≤ 9223372036854775807 := by unfold maxLen at hm; omega
  clear hm
  go_enter Try.func5, Try.ntmps5
  go_wp2
  go_ret2
  exact ⟨rfl, rfl⟩
theorem units9_short (s : ByteArray) (hs : s.size ≤ 2000) (w : World) : Calls Try.prog 5 #[.string s] w fun e w' => UnitsYes s w e w' ∨ UnitsNo s w e w' := by
  go_enter Try.func5, Try.ntmps5
  go_wp2_with fail
  refine (units_any s (by omega) _).mono ?_
  rintro e w1 (⟨l, v, h1, rfl, h2, h3⟩ | ⟨h1, rfl, h3⟩)
  · have H1 := Lib.hid h1
    have H2 := Lib.hid h2
    clear h1 h2
    go_wp2_with fail
    go_ret2
    exact .inl ⟨l, v, H1.out, rfl, H2.out, h3⟩
  · have H1 := Lib.hid h1
    clear h1
    go_wp2_with fail
    go_ret2
    exact .inr ⟨H1.out, rfl, h3⟩
/-- What units9 tells: the letters' numbers, or nothing. -/
def Told (s : ByteArray) : Prop := s.size ≤ 2000 ∧ ∃ l, Read s s.size l
theorem units9_yes (s : ByteArray) (hs : Told s) (w : World) : Calls Try.prog 5 #[.string s] w (UnitsYes s w) :=
  (units9_short s hs.1 w).mono fun e w' h => by
    rcases h with h | ⟨h, _⟩
    · exact h
    · obtain ⟨l, hl⟩ := hs.2
      exact absurd hl (h l)
theorem units9_no (s : ByteArray) (hm : s.size ≤ maxLen) (hs : ¬ Told s) (w : World) : Calls Try.prog 5 #[.string s] w fun e w' => e = .returned (.tuple #[.slice none 0 0, .bool false]) ∧ Below w.heap.size w w' := by
  by_cases h : s.size ≤ 2000
  · refine (units9_short s h w).mono fun e w' h' => ?_
    rcases h' with ⟨l, v, hl, _⟩ | ⟨_, he, hb⟩
    · exact absurd ⟨h, l, hl⟩ hs
    · exact ⟨he, hb⟩
  · exact (units9_long s (by omega) hm w).mono fun e w' ⟨he, hw⟩ => ⟨he, by rw [← hw]; exact Below.refl _ _⟩
end Go.Proofs.Ytohhcmcelofgeaa
