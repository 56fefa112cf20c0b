/-
  FnTextPlain: how a plain text is written. Conditions: none.
-/
import Derived.Test.YtcmkfhlihdbiiaaDoorRows
import Derived.Test.YtcmkfhlihdbiiaaDoorLay
import Derived.Below
import Derived.WalkKit
import Derived.WalkSpells
import Derived.Lib.BufferAt
import Derived.Lib.OthersKept
import Derived.Lib.ByteType
import Derived.Lib.Hide
import Derived.Lib.Strings
import Derived.BigCall
import Derived.BigGuard
import Derived.WalkLawsBesides
namespace Go.Proofs.YtcmkfhlihdbiiaaDoor
open Go.RowKit
set_option linter.unusedVariables false
set_option linter.unusedSimpArgs false

/-- A buffer holds these bytes. -/
def Buf (w : World) (B b : Nat) (l : List UInt8) : Prop := LibA.IsBuffer 28 (fun _ => none) 5 B b 0 (Lib.byteCells l) w
def Wrote (w : World) (B b : Nat) (l : List UInt8) (v : Value) (e : Ending) (w' : World) : Prop := e = .returned v ∧ Buf w' B b l ∧ Below B w w' ∧ Lib.OthersKept 5 (some b) w w'
theorem Buf.lt {w : World} {B b : Nat} {l : List UInt8} (h : Buf w B b l) : B ≤ b ∧ b < w.heap.size := ⟨h.1, LibA.IsBuffer.lt h⟩
theorem fresh_buf (w : World) : Buf (w.alloc (.cells #[.slice none 0 0, .int .i64 0, .int .i8 0] 28)) w.heap.size w.heap.size [] :=
  LibA.zero_isBuffer (Nat.le_refl _) (LibA.three_whole (heap_alloc_new w _))
theorem string_any (B b : Nat) (l : List UInt8) (s : ByteArray) (L : List UInt8) (hL : L = l ++ s.data.toList) (w : World) (h : Buf w B b l) (hBw : B ≤ w.heap.size) (hlim : L.length ≤ 100000000) :
    Calls Tryd.prog 7 #[.pointer (some ⟨b, 0, none⟩), .string s] w (Wrote w B b L (.tuple #[.int .i64 s.size, .nilIface])) := by
  subst hL
  refine (Any.Buffer_WriteString_at lays178 28 (fun _ => none) B b 0 (Lib.byteCells l) s w h hBw (Lib.byteCells_one l) (by rw [Lib.byteCells_length]; have : s.data.toList.length = s.size := Lib.size_eq s ▸ rfl; rw [List.length_append] at hlim; omega)).mono ?_
  rintro e w1 ⟨he, i1, b1, k1⟩
  exact ⟨he, by unfold Buf; rw [Lib.byteCells_append]; exact i1, b1, k1⟩
theorem byte_any (B b : Nat) (l : List UInt8) (c : UInt8) (w : World) (h : Buf w B b l) (hBw : B ≤ w.heap.size) (hlim : l.length ≤ 100000000) :
    Calls Tryd.prog 14 #[.pointer (some ⟨b, 0, none⟩), .int .u8 c.toNat] w (Wrote w B b (l ++ [c]) .nilIface) := by
  refine (Any.Buffer_WriteByte_at lays179 28 (fun _ => none) B b 0 (Lib.byteCells l) c.toNat w h hBw (Lib.byteCells_one l) (by rw [Lib.byteCells_length]; omega)).mono ?_
  rintro e w1 ⟨he, i1, b1, k1⟩
  exact ⟨he, by unfold Buf; rw [Lib.byteCells_append]; exact i1, b1, k1⟩
theorem text_any (B b : Nat) (l : List UInt8) (w : World) (h : Buf w B b l) :
    Calls Tryd.prog 10 #[.pointer (some ⟨b, 0, none⟩)] w fun e w' => e = .returned (.string ⟨l.toArray⟩) ∧ ∃ n, w' = w.drewN n :=
  Any.Buffer_String_at lays182 28 (fun _ => none) B b 0 l w h

set_option maxRecDepth 100000 in
theorem rune_any (B b : Nat) (l : List UInt8) (c : UInt8) (hc : c.toNat < 128) (w : World) (h : Buf w B b l) (hBw : B ≤ w.heap.size) (hlim : l.length ≤ 100000000) :
    Calls Tryd.prog 9 #[.pointer (some ⟨b, 0, none⟩), .int .i32 c.toNat] w (Wrote w B b (l ++ [c]) (.tuple #[.int .i64 1, .nilIface])) := by
  have HW := Lib.hid (byte_any B b l c w h hBw hlim)
  have hbl := h.lt
  clear h hlim
  go_enter Tryd.func9, Tryd.ntmps9
  go_wp2_with (go_at_call 14; refine HW.out.mono ?_; rintro e' w1 ⟨rfl, i1, b1, k1⟩; have HI := Lib.hid i1; have HB := Lib.hid b1; have HK := Lib.hid k1; clear i1 b1 k1)
  go_ret2
  exact ⟨rfl, HI.out, HB.out, HK.out⟩

/-- Printable ASCII without quotes and backslashes. -/
def Plain (s : ByteArray) : Prop := ∀ (k : Nat) (h : k < s.size), 32 ≤ (s[k]'h).toNat ∧ (s[k]'h).toNat ≤ 126 ∧ (s[k]'h).toNat ≠ 34 ∧ (s[k]'h).toNat ≠ 92
theorem take_snoc (s : ByteArray) (k : Nat) (h : k < s.size) : s.data.toList.take (k + 1) = s.data.toList.take k ++ [s[k]] := by
  rw [List.take_succ_eq_append_getElem (by simpa using h)]; rfl
def quoted (s : ByteArray) : List UInt8 := [34] ++ s.data.toList ++ [34]
def TextIs (w : World) (l : List UInt8) (e : Ending) (w' : World) : Prop := e = .returned (.string ⟨l.toArray⟩) ∧ Below w.heap.size w w'

set_option maxRecDepth 100000 in
set_option maxHeartbeats 1000000 in
theorem unparse_any (s : ByteArray) (w : World) (hs : s.size ≤ 1000) (hp : Plain s) :
    Calls Tryd.prog 6 #[.string s] w (TextIs w (quoted s)) := by
  have HP := Lib.hid hp
  have hlen : s.data.toList.length = s.size := Lib.size_eq s ▸ rfl
  have Hlen := Lib.hid hlen
  clear hp hlen
  go_enter Tryd.func6, Tryd.ntmps6
  go_wp2_with fail
  go_at_call 7
  refine (string_any w.heap.size w.heap.size [] ⟨#[34]⟩ [34] rfl _ (fresh_buf w) (by simp) (by simp)).mono ?_
  rintro e' w1 ⟨rfl, i1, b1, k1⟩
  have HI1 := Lib.hid i1
  have HB1 : Hid (Below w.heap.size w w1) := ((Below.refl _ _).alloc (Nat.le_refl _) _).trans b1
  have hl1 : w.heap.size < w1.heap.size := i1.lt.2
  clear i1 b1 k1
  go_wp2
  go_loopw [] (fun wr => ∃ pos : Nat, pos ≤ s.size ∧ Buf wr w.heap.size w.heap.size ([34] ++ s.data.toList.take pos) ∧ wr.heap[w1.heap.size]? = some (.stringIter s pos) ∧ Below w.heap.size w wr) (fun wr => s.size - wr.iterPos w1.heap.size)
  case atStart =>
    refine ⟨0, by omega, ?_, ?_, ?_⟩
    · exact LibA.IsBuffer.alloc HI1.out _
    · have := World.iter_heap w1 s 0
      simpa using this
    · exact HB1.out.alloc (by omega) _
  case round =>
    obtain ⟨pos, hpos, hI, hit, hbw⟩ := hrel
    have hsz : w1.heap.size < wr.heap.size := (Array.getElem?_eq_some_iff.1 hit).1
    by_cases hp : pos < s.size
    · obtain ⟨p1, p2, p3, p4⟩ := HP.out pos hp
      have hnx : ∀ ty, (Instr.next (.pointer (some ⟨w1.heap.size, 0, none⟩)) true ty).run Tryd.prog wr = _ := fun ty => Lib.run_next_ascii_at wr w1.heap.size s pos ty hit hp (by omega)
      have HI2 := Lib.hid (LibA.IsBuffer.iterAt hI hit (pos + 1))
      have hit2 := Lib.iterAt_heap wr w1.heap.size s pos (pos + 1) hit
      have HIT2 := Lib.hid hit2
      have HBW2 := Lib.hid (Lib.below_iterAt hbw (k := w1.heap.size) (by omega) s (pos + 1))
      have hsz2 : w.heap.size ≤ (wr.iterAt w1.heap.size s (pos + 1)).heap.size := by rw [Lib.iterAt_size]; omega
      have HSZ2 := Lib.hid hsz2
      have HIT := Lib.hid hit
      obtain ⟨c, hc⟩ : ∃ c : UInt8, c = s[pos] := ⟨_, rfl⟩
      rw [← hc] at p1 p2 p3 p4 hnx
      have HC := Lib.hid hc
      clear hc hI hit hit2 hbw hsz2
      obtain ⟨m, hm⟩ : ∃ m : Int, m = (c.toNat : Int) := ⟨_, rfl⟩
      have q1 : 32 ≤ m := by omega
      have q2 : m ≤ 126 := by omega
      have q3 : (m == 34) = false := by simp; omega
      have q4 : (m == 92) = false := by simp; omega
      have q5 : (m == 8) = false := by simp; omega
      have q6 : (m == 12) = false := by simp; omega
      have q7 : (m == 10) = false := by simp; omega
      have q8 : (m == 13) = false := by simp; omega
      have q9 : (m == 9) = false := by simp; omega
      have q0 : (m == 0) = false := by simp; omega
      rw [← hm] at hnx
      have HM := Lib.hid hm
      have HCb : Hid (c.toNat < 128) := by show _ < _; omega
      clear hm p1 p2 p3 p4
      go_wp2_with fail
      go_at_call 9
      rw [HM.out]
      refine (rune_any w.heap.size w.heap.size ([34] ++ s.data.toList.take pos) c HCb.out _ HI2.out HSZ2.out (by have := Hlen.out; simp only [List.length_append, List.length_take, List.length_singleton]; omega)).mono ?_
      rintro e' w2 ⟨rfl, i2, b2, k2⟩
      have HI3 : Hid (Buf w2 w.heap.size w.heap.size ([34] ++ s.data.toList.take (pos + 1))) := by
        show Buf _ _ _ _
        rw [take_snoc s pos hp, ← HC.out, ← List.append_assoc]
        exact i2
      have HIT3 := Lib.hid (k2.iter HIT2.out (by omega))
      have HBW3 := Lib.hid (HBW2.out.trans b2)
      clear i2 b2 k2
      go_wp2
      go_roundw
      case rel => exact ⟨pos + 1, by omega, HI3.out, HIT3.out, HBW3.out⟩
      case measure =>
        simp only [World.iterPos, HIT3.out, HIT.out]
        omega
    · obtain rfl : s.size = pos := by omega
      have hnx : ∀ ty, (Instr.next (.pointer (some ⟨w1.heap.size, 0, none⟩)) true ty).run Tryd.prog wr = _ := fun ty => Lib.run_next_end_at wr w1.heap.size s s.size ty hit hp
      have HI3 := Lib.hid hI
      have HBW3 := Lib.hid hbw
      have HSZ3 : Hid (w.heap.size ≤ wr.heap.size) := by show _ ≤ _; omega
      clear hI hit hbw
      go_wp2_with fail
      go_at_call 7
      refine (string_any w.heap.size w.heap.size ([34] ++ s.data.toList.take s.size) ⟨#[34]⟩ (quoted s) (by unfold quoted; rw [← Hlen.out, List.take_length]) _ HI3.out HSZ3.out (by have := Hlen.out; unfold quoted; simp only [List.length_append, List.length_singleton]; omega)).mono ?_
      rintro e' w2 ⟨rfl, i2, b2, k2⟩
      have HI4 := Lib.hid i2
      have HB4 := Lib.hid (HBW3.out.trans b2)
      clear i2 b2 k2
      go_wp2_with fail
      go_at_call 10
      refine (text_any w.heap.size w.heap.size (quoted s) w2 HI4.out).mono ?_
      rintro e' w3 ⟨rfl, n, rfl⟩
      go_wp2
      go_ret
      exact ⟨rfl, ⟨HB4.out.os, HB4.out.tape, HB4.out.output, HB4.out.size, HB4.out.block⟩⟩

theorem door_any (s : ByteArray) (w : World) (hs : s.size ≤ 1000) (hp : Plain s) :
    Calls Tryd.prog 5 #[.string s] w (TextIs w (quoted s)) := by
  have HP := Lib.hid hp
  clear hp
  go_enter Tryd.func5, Tryd.ntmps5
  go_wp2_with fail
  go_at_call 6
  refine (unparse_any s w hs HP.out).mono ?_
  rintro e' w1 ⟨rfl, b1⟩
  have HB := Lib.hid b1
  clear b1
  go_wp2
  go_ret
  exact ⟨rfl, HB.out⟩
theorem impl_any (s : ByteArray) (w : World) (hs : s.size ≤ 1000) (hp : Plain s) :
    Calls Tryd.prog 4 #[.string s] w (TextIs w (quoted s)) := by
  have HP := Lib.hid hp
  clear hp
  go_enter Tryd.func4, Tryd.ntmps4
  go_wp2_with fail
  go_at_call 5
  refine (door_any s w hs HP.out).mono ?_
  rintro e' w1 ⟨rfl, b1⟩
  have HB := Lib.hid b1
  clear b1
  go_wp2
  go_ret
  exact ⟨rfl, HB.out⟩

theorem same_of (s S : ByteArray) (h : ⟨(quoted s).toArray⟩ = S) : (S.toList == ((⟨#[34]⟩ : ByteArray) ++ s ++ ⟨#[34]⟩).toList) = true := by
  subst h
  rw [Lib.toList_data, Lib.toList_data]
  simp [quoted]

theorem walk_big (s : ByteArray) (w : World) (hm : s.size ≤ 9223372036854775807) (hs : 1000 < s.size) :
    Calls Tryd.prog 3 #[.string s] w fun e w' => e = .returned (.bool true) ∧ Below w.heap.size w w' := by
  go_enter Tryd.func3, Tryd.ntmps3
  go_wp2
  all_goals
    go_ret
    exact ⟨rfl, Below.refl _ _⟩

set_option maxRecDepth 100000 in
set_option maxHeartbeats 1000000 in
theorem walk_small (s : ByteArray) (w : World) (hs : s.size ≤ 1000) :
    Calls Tryd.prog 3 #[.string s] w fun e w' => e = .returned (.bool true) ∧ Below w.heap.size w w' := by
  go_enter Tryd.func3, Tryd.ntmps3
  go_wp2
  go_loop [3] (fun i => ∃ k : Nat, k ≤ s.size ∧ i = .int .i64 k ∧ ∀ (j : Nat) (h : j < s.size), j < k → 32 ≤ (s[j]'h).toNat ∧ (s[j]'h).toNat ≤ 126 ∧ (s[j]'h).toNat ≠ 34 ∧ (s[j]'h).toNat ≠ 92) (fun i => s.size - (intOf i).toNat)
  case atStart => exact ⟨0, by omega, rfl, fun j h h0 => absurd h0 (by omega)⟩
  case round =>
    obtain ⟨k, hk, rfl, hall⟩ := hrel
    have HA := Lib.hid hall
    clear hall
    by_cases hlt : k < s.size
    · by_cases hok : 32 ≤ s[k].toNat ∧ s[k].toNat ≤ 126 ∧ s[k].toNat ≠ 34 ∧ s[k].toNat ≠ 92
      · have HN : Hid (∀ (j : Nat) (h : j < s.size), j < k + 1 → 32 ≤ (s[j]'h).toNat ∧ (s[j]'h).toNat ≤ 126 ∧ (s[j]'h).toNat ≠ 34 ∧ (s[j]'h).toNat ≠ 92) := fun j h hj => by
          by_cases e : j = k
          · subst e; exact hok
          · exact HA.out j h (by omega)
        have r1 : ¬ (s[k].toNat : Int) < 32 := by omega
        have r2 : ¬ (126 : Int) < (s[k].toNat : Int) := by omega
        have r3 : ((s[k].toNat : Int) == 34) = false := by simp; omega
        have r4 : ((s[k].toNat : Int) == 92) = false := by simp; omega
        clear hok
        go_wp2
        go_round
        case rel => exact ⟨k + 1, by omega, by go_num, HN.out⟩
        case measure => simp [intOf]; omega
      · have hw : s[k].toNat < 32 ∨ (32 ≤ s[k].toNat ∧ 126 < s[k].toNat) ∨ (32 ≤ s[k].toNat ∧ s[k].toNat ≤ 126 ∧ s[k].toNat = 34) ∨ (32 ≤ s[k].toNat ∧ s[k].toNat ≤ 126 ∧ s[k].toNat ≠ 34 ∧ s[k].toNat = 92) := by omega
        clear hok
        rcases hw with h | ⟨h1, h2⟩ | ⟨h1, h2, h3⟩ | ⟨h1, h2, h3, h4⟩
        · have r1 : (s[k].toNat : Int) < 32 := by omega
          clear h
          go_wp2
          go_ret
          exact ⟨rfl, Below.refl _ _⟩
        · have r1 : ¬ (s[k].toNat : Int) < 32 := by omega
          have r2 : (126 : Int) < (s[k].toNat : Int) := by omega
          clear h1 h2
          go_wp2
          go_ret
          exact ⟨rfl, Below.refl _ _⟩
        · have r1 : ¬ (s[k].toNat : Int) < 32 := by omega
          have r2 : ¬ (126 : Int) < (s[k].toNat : Int) := by omega
          have r3 : ((s[k].toNat : Int) == 34) = true := by simp; omega
          clear h1 h2 h3
          go_wp2
          go_ret
          exact ⟨rfl, Below.refl _ _⟩
        · have r1 : ¬ (s[k].toNat : Int) < 32 := by omega
          have r2 : ¬ (126 : Int) < (s[k].toNat : Int) := by omega
          have r3 : ((s[k].toNat : Int) == 34) = false := by simp; omega
          have r4 : ((s[k].toNat : Int) == 92) = true := by simp; omega
          clear h1 h2 h3 h4
          go_wp2
          go_ret
          exact ⟨rfl, Below.refl _ _⟩
    · obtain rfl : s.size = k := by omega
      have HPl : Hid (Plain s) := fun j h => HA.out j h h
      clear HA
      obtain ⟨S, hS⟩ : ∃ S : ByteArray, ⟨(quoted s).toArray⟩ = S := ⟨_, rfl⟩
      have HS := Lib.hid hS
      clear hS
      go_wp2_with fail
      go_at_call 4
      refine (impl_any s w hs HPl.out).mono ?_
      rintro e' w1 ⟨he, b1⟩
      rw [HS.out] at he
      subst he
      have HB := Lib.hid b1
      clear b1
      go_wp2
      go_ret
      exact ⟨by show Ending.returned (.bool (S.toList == _)) = _; rw [same_of s S HS.out], HB.out⟩

theorem walk (s : ByteArray) (hs : s.size ≤ maxLen) (w : World) :
    Calls Tryd.prog 3 #[.string s] w fun e w' => e = .returned (.bool true) ∧ Below w.heap.size w w' := by
  by_cases h : s.size ≤ 1000
  · exact walk_small s w h
  · exact walk_big s w (by unfold maxLen at hs; omega) (by omega)
end Go.Proofs.YtcmkfhlihdbiiaaDoor
