/-
  EnforceCommentStyle of one element. Conditions: none.
-/
import Derived.Test.YtdjnknkdnacbnaaStyD
import Derived.Test.YtdjnknkdnacbnaaStyB
import Derived.Test.YtdjnknkdnacbnaaBut
namespace Go.Proofs.Ytdjnknkdnacbnaa
open Go.RowKit
set_option linter.unusedVariables false
set_option linter.unusedSimpArgs false

theorem ext2 (s : ByteArray) (h : 1 < s.size) : (s.extract 0 2).toList = [s[0], s[1]] := by
  rw [Lib.toList_data, Lib.extract_data]
  obtain ⟨⟨l⟩⟩ := s
  match l, h with
  | [], h => simp [ByteArray.size] at h
  | [a], h => simp [ByteArray.size] at h
  | a :: b :: t, h => rfl
theorem two_at (s : ByteArray) (a b : UInt8) : stB s ⟨#[a, b]⟩ = true ↔ ∃ h : 1 < s.size, s[0] = a ∧ s[1] = b := by
  rw [two_is]
  constructor
  · intro h
    simp only [Bool.and_eq_true, decide_eq_true_eq] at h
    obtain ⟨h1, h2⟩ := h
    rw [ext2 s h1] at h2
    simp at h2
    exact ⟨h1, h2⟩
  · rintro ⟨h, h1, h2⟩
    rw [ext2 s h, decide_eq_true h, h1, h2]
    simp
theorem ha_at (s : ByteArray) (h : 0 < s.size) : stB s cHa = true ↔ s[0] = 35 := by
  rw [ha_is s h, beq_iff_eq]
  constructor
  · intro e
    exact UInt8.toNat_inj.1 (by have : (35 : UInt8).toNat = 35 := rfl; omega)
  · intro e
    rw [e]; rfl
/-- What an element's turn leaves: its comments styled, the seen mark whatever. -/
def Turned (w : World) (base q : Nat) (u : Value) (st : Int) (ss : List ByteArray) (e : Ending) (w' : World) : Prop :=
  e = .returned (.tuple #[]) ∧ (∃ b, w'.cell? ⟨q, 12, none⟩ = some (.bool b)) ∧ w'.cell? ⟨q, 3, none⟩ = some (.int .i64 st) ∧ w'.frozen? ⟨q, 12, none⟩ = false ∧
    w'.ownsRow base 9 1 u ss.length (strs ss) ∧ But (fun k => k = q ∨ u.ownBlock = some k) w w'

section
variable {q base : Nat} {u : Value} {st : Int} {w : World} {ss : List ByteArray} {seen : Bool}
theorem turned_same (h3 : w.cell? ⟨q, 3, none⟩ = some (.int .i64 st)) (h12 : w.cell? ⟨q, 12, none⟩ = some (.bool seen)) (f12 : w.frozen? ⟨q, 12, none⟩ = false) (ho : w.ownsRow base 9 1 u ss.length (strs ss)) :
    Turned w base q u st ss (.returned (.tuple #[])) w := ⟨rfl, ⟨seen, h12⟩, h3, f12, ho, But.refl _ _⟩
theorem turned_seen (h3 : w.cell? ⟨q, 3, none⟩ = some (.int .i64 st)) (h12 : w.cell? ⟨q, 12, none⟩ = some (.bool seen)) (f12 : w.frozen? ⟨q, 12, none⟩ = false) (ho : w.ownsRow base 9 1 u ss.length (strs ss)) (hq : u.ownBlock ≠ some q) :
    Turned w base q u st ss (.returned (.tuple #[])) (w.setCell ⟨q, 12, none⟩ (.bool true)) :=
  ⟨rfl, ⟨true, World.cell?_setCell_same' _ _ _ (by rw [h12]; rfl)⟩, (World.cell?_setCell_other _ _ _ _ (by simp)).trans h3, by rw [World.frozen?_setCell]; exact f12, ownsRow_set ho hq, (But.refl _ _).setCell (.inl (.inl rfl)) _⟩
theorem turned_set {g cap : Nat} {s s' : ByteArray} (h3 : w.cell? ⟨q, 3, none⟩ = some (.int .i64 st)) (h12 : w.cell? ⟨q, 12, none⟩ = some (.bool seen)) (f12 : w.frozen? ⟨q, 12, none⟩ = false) (ho : w.ownsRow base 9 1 (.slice (some ⟨g, 0, none⟩) 1 cap) 1 [.string s]) (hq : g ≠ q) :
    Turned w base q (.slice (some ⟨g, 0, none⟩) 1 cap) st [s'] (.returned (.tuple #[])) ((w.setCell ⟨g, 0, none⟩ (.string s')).setCell ⟨q, 12, none⟩ (.bool true)) := by
  have c12 : (w.setCell ⟨g, 0, none⟩ (.string s')).cell? ⟨q, 12, none⟩ = some (.bool seen) := (World.cell?_setCell_other _ _ _ _ (by simp [hq])).trans h12
  refine ⟨rfl, ⟨true, World.cell?_setCell_same' _ _ _ (by rw [c12]; rfl)⟩, ((World.cell?_setCell_other _ _ _ _ (by simp)).trans (World.cell?_setCell_other _ _ _ _ (by simp [hq]))).trans h3, by rw [World.frozen?_setCell, World.frozen?_setCell]; exact f12, ownsRow_set ?_ (by simp [Value.ownBlock, hq]), ((But.refl _ _).setCell (.inl (.inr rfl)) _).setCell (.inl (.inl rfl)) _⟩
  exact (ho.stored 0 (.string s')).1
end

set_option maxRecDepth 100000 in
set_option maxHeartbeats 800000 in
theorem fe_one (q base : Nat) (p : Addr) (K : Int) (seen : Bool) (w : World) (st : Int)
    (h3 : w.cell? ⟨q, 3, none⟩ = some (.int .i64 st)) (h12 : w.cell? ⟨q, 12, none⟩ = some (.bool seen)) (f12 : w.frozen? ⟨q, 12, none⟩ = false) (p1 : w.cell? ⟨p.block, p.off + 1, none⟩ = some (.int .i64 K)) (u : Value) (ss : List ByteArray) (p0 : w.cell? p = some u) (ho : w.ownsRow base 9 1 u ss.length (strs ss)) (hk : K = 1) (x y : Value) :
    Calls Try.prog 47 #[.pointer (some ⟨q, 0, none⟩), x, .pointer (some p), y] w (Turned w base q u st ss) := by
  have Hx := Lib.hid (turned_same h3 h12 f12 ho)
  subst hk
  clear ho
  go_enter Try.func47, Try.ntmps47
  go_wp2
  go_end0
  exact Hx.out

set_option maxRecDepth 100000 in
set_option maxHeartbeats 800000 in
theorem fe_many (q base : Nat) (p : Addr) (K : Int) (seen : Bool) (w : World) (st : Int)
    (h3 : w.cell? ⟨q, 3, none⟩ = some (.int .i64 st)) (h12 : w.cell? ⟨q, 12, none⟩ = some (.bool seen)) (f12 : w.frozen? ⟨q, 12, none⟩ = false) (p1 : w.cell? ⟨p.block, p.off + 1, none⟩ = some (.int .i64 K)) (u : Value) (ss : List ByteArray) (p0 : w.cell? p = some u) (ho : w.ownsRow base 9 1 u ss.length (strs ss)) (hk : (K == 1) = false) (hn : ((ss.length : Int) == 1) = false) (hq : u.ownBlock ≠ some q) (x y : Value) :
    Calls Try.prog 47 #[.pointer (some ⟨q, 0, none⟩), x, .pointer (some p), y] w (Turned w base q u st ss) := by
  have Hx := Lib.hid (turned_seen h3 h12 f12 ho hq)
  obtain ⟨A, c, rfl⟩ := own_form ho
  clear ho hq
  go_enter Try.func47, Try.ntmps47
  go_wp2
  go_end0
  exact Hx.out

set_option maxRecDepth 100000 in
set_option maxHeartbeats 800000 in
theorem fe_slash (q base : Nat) (p : Addr) (K : Int) (seen : Bool) (w : World)
    (h3 : w.cell? ⟨q, 3, none⟩ = some (.int .i64 0)) (h12 : w.cell? ⟨q, 12, none⟩ = some (.bool seen)) (f12 : w.frozen? ⟨q, 12, none⟩ = false) (p1 : w.cell? ⟨p.block, p.off + 1, none⟩ = some (.int .i64 K)) (g cap : Nat) (s : ByteArray) (hs : s.size ≤ 200) (hs0 : 0 < s.size) (p0 : w.cell? p = some (.slice (some ⟨g, 0, none⟩) 1 cap)) (ho : w.ownsRow base 9 1 (.slice (some ⟨g, 0, none⟩) 1 cap) 1 [.string s]) (hk : (K == 1) = false) (hq : g ≠ q) (hS : ((s[0].toNat : Int) == 47) = true) (h2 : 2 ≤ s.size) (x y : Value) :
    Calls Try.prog 47 #[.pointer (some ⟨q, 0, none⟩), x, .pointer (some p), y] w (Turned w base q (.slice (some ⟨g, 0, none⟩) 1 cap) 0 [cHa ++ s.extract 2 s.size]) := by
  have Hx := Lib.hid (turned_set (s' := cHa ++ s.extract 2 s.size) h3 h12 f12 ho hq)
  have hg : w.cell? ⟨g, 0, none⟩ = some (.string s) := ho.cellAt 0 (by omega)
  have fg : w.frozen? ⟨g, 0, none⟩ = false := ho.frozenAt 0
  clear ho
  go_enter Try.func47, Try.ntmps47
  go_wp2
  go_end0
  exact Hx.out

set_option maxRecDepth 100000 in
set_option maxHeartbeats 800000 in
theorem fe_keep0 (q base : Nat) (p : Addr) (K : Int) (seen : Bool) (w : World)
    (h3 : w.cell? ⟨q, 3, none⟩ = some (.int .i64 0)) (h12 : w.cell? ⟨q, 12, none⟩ = some (.bool seen)) (f12 : w.frozen? ⟨q, 12, none⟩ = false) (p1 : w.cell? ⟨p.block, p.off + 1, none⟩ = some (.int .i64 K)) (g cap : Nat) (s : ByteArray) (hs : s.size ≤ 200) (hs0 : 0 < s.size) (p0 : w.cell? p = some (.slice (some ⟨g, 0, none⟩) 1 cap)) (ho : w.ownsRow base 9 1 (.slice (some ⟨g, 0, none⟩) 1 cap) 1 [.string s]) (hk : (K == 1) = false) (hq : g ≠ q) (hS : ((s[0].toNat : Int) == 47) = false) (x y : Value) :
    Calls Try.prog 47 #[.pointer (some ⟨q, 0, none⟩), x, .pointer (some p), y] w (Turned w base q (.slice (some ⟨g, 0, none⟩) 1 cap) 0 [s]) := by
  have Hx := Lib.hid (turned_seen (ss := [s]) h3 h12 f12 ho (by simp [Value.ownBlock, hq]))
  have hg : w.cell? ⟨g, 0, none⟩ = some (.string s) := ho.cellAt 0 (by omega)
  have fg : w.frozen? ⟨g, 0, none⟩ = false := ho.frozenAt 0
  clear ho
  go_enter Try.func47, Try.ntmps47
  go_wp2
  go_end0
  exact Hx.out

set_option maxRecDepth 100000 in
set_option maxHeartbeats 800000 in
theorem fe_keep1 (q base : Nat) (p : Addr) (K : Int) (seen : Bool) (w : World)
    (h3 : w.cell? ⟨q, 3, none⟩ = some (.int .i64 1)) (h12 : w.cell? ⟨q, 12, none⟩ = some (.bool seen)) (f12 : w.frozen? ⟨q, 12, none⟩ = false) (p1 : w.cell? ⟨p.block, p.off + 1, none⟩ = some (.int .i64 K)) (g cap : Nat) (s : ByteArray) (hs : s.size ≤ 200) (hs0 : 0 < s.size) (p0 : w.cell? p = some (.slice (some ⟨g, 0, none⟩) 1 cap)) (ho : w.ownsRow base 9 1 (.slice (some ⟨g, 0, none⟩) 1 cap) 1 [.string s]) (hk : (K == 1) = false) (hq : g ≠ q) (hS : ((s[0].toNat : Int) == 35) = false) (x y : Value) :
    Calls Try.prog 47 #[.pointer (some ⟨q, 0, none⟩), x, .pointer (some p), y] w (Turned w base q (.slice (some ⟨g, 0, none⟩) 1 cap) 1 [s]) := by
  have Hx := Lib.hid (turned_seen (ss := [s]) h3 h12 f12 ho (by simp [Value.ownBlock, hq]))
  have hg : w.cell? ⟨g, 0, none⟩ = some (.string s) := ho.cellAt 0 (by omega)
  have fg : w.frozen? ⟨g, 0, none⟩ = false := ho.frozenAt 0
  clear ho
  go_enter Try.func47, Try.ntmps47
  go_wp2
  go_end0
  exact Hx.out

set_option maxRecDepth 100000 in
set_option maxHeartbeats 800000 in
theorem fe_keep2 (q base : Nat) (p : Addr) (K : Int) (seen : Bool) (w : World)
    (h3 : w.cell? ⟨q, 3, none⟩ = some (.int .i64 2)) (h12 : w.cell? ⟨q, 12, none⟩ = some (.bool seen)) (f12 : w.frozen? ⟨q, 12, none⟩ = false) (p1 : w.cell? ⟨p.block, p.off + 1, none⟩ = some (.int .i64 K)) (g cap : Nat) (s : ByteArray) (hs : s.size ≤ 200) (hs0 : 0 < s.size) (p0 : w.cell? p = some (.slice (some ⟨g, 0, none⟩) 1 cap)) (ho : w.ownsRow base 9 1 (.slice (some ⟨g, 0, none⟩) 1 cap) 1 [.string s]) (hk : (K == 1) = false) (hq : g ≠ q) (x y : Value) :
    Calls Try.prog 47 #[.pointer (some ⟨q, 0, none⟩), x, .pointer (some p), y] w (Turned w base q (.slice (some ⟨g, 0, none⟩) 1 cap) 2 [s]) := by
  have Hx := Lib.hid (turned_seen (ss := [s]) h3 h12 f12 ho (by simp [Value.ownBlock, hq]))
  have hg : w.cell? ⟨g, 0, none⟩ = some (.string s) := ho.cellAt 0 (by omega)
  have fg : w.frozen? ⟨g, 0, none⟩ = false := ho.frozenAt 0
  clear ho
  go_enter Try.func47, Try.ntmps47
  go_wp2
  go_end0
  exact Hx.out

set_option maxRecDepth 100000 in
set_option maxHeartbeats 800000 in
theorem fe_bang (q base : Nat) (p : Addr) (K : Int) (w : World)
    (h3 : w.cell? ⟨q, 3, none⟩ = some (.int .i64 1)) (h12 : w.cell? ⟨q, 12, none⟩ = some (.bool false)) (f12 : w.frozen? ⟨q, 12, none⟩ = false) (p1 : w.cell? ⟨p.block, p.off + 1, none⟩ = some (.int .i64 K)) (g cap : Nat) (s : ByteArray) (hs : s.size ≤ 200) (hs0 : 0 < s.size) (p0 : w.cell? p = some (.slice (some ⟨g, 0, none⟩) 1 cap)) (ho : w.ownsRow base 9 1 (.slice (some ⟨g, 0, none⟩) 1 cap) 1 [.string s]) (hk : (K == 1) = false) (hq : g ≠ q) (hS : ((s[0].toNat : Int) == 35) = true) (h1 : 1 < s.size) (hB : ((s[1].toNat : Int) == 33) = true) (x y : Value) :
    Calls Try.prog 47 #[.pointer (some ⟨q, 0, none⟩), x, .pointer (some p), y] w (Turned w base q (.slice (some ⟨g, 0, none⟩) 1 cap) 1 [s]) := by
  have Hx := Lib.hid (turned_same (ss := [s]) h3 h12 f12 ho)
  have hg : w.cell? ⟨g, 0, none⟩ = some (.string s) := ho.cellAt 0 (by omega)
  have fg : w.frozen? ⟨g, 0, none⟩ = false := ho.frozenAt 0
  clear ho
  go_enter Try.func47, Try.ntmps47
  go_wp2
  refine bodyPost_ret (results_none rfl _ _ _) rfl ?_
  exact Hx.out

set_option maxRecDepth 100000 in
set_option maxHeartbeats 800000 in
theorem fe_hash1 (q base : Nat) (p : Addr) (K : Int) (w : World)
    (h3 : w.cell? ⟨q, 3, none⟩ = some (.int .i64 1)) (h12 : w.cell? ⟨q, 12, none⟩ = some (.bool true)) (f12 : w.frozen? ⟨q, 12, none⟩ = false) (p1 : w.cell? ⟨p.block, p.off + 1, none⟩ = some (.int .i64 K)) (g cap : Nat) (s : ByteArray) (hs : s.size ≤ 200) (hs0 : 0 < s.size) (p0 : w.cell? p = some (.slice (some ⟨g, 0, none⟩) 1 cap)) (ho : w.ownsRow base 9 1 (.slice (some ⟨g, 0, none⟩) 1 cap) 1 [.string s]) (hk : (K == 1) = false) (hq : g ≠ q) (hS : ((s[0].toNat : Int) == 35) = true) (x y : Value) :
    Calls Try.prog 47 #[.pointer (some ⟨q, 0, none⟩), x, .pointer (some p), y] w (Turned w base q (.slice (some ⟨g, 0, none⟩) 1 cap) 1 [cSl ++ s.extract 1 s.size]) := by
  have Hx := Lib.hid (turned_set (s' := cSl ++ s.extract 1 s.size) h3 h12 f12 ho hq)
  have hg : w.cell? ⟨g, 0, none⟩ = some (.string s) := ho.cellAt 0 (by omega)
  have fg : w.frozen? ⟨g, 0, none⟩ = false := ho.frozenAt 0
  clear ho
  go_enter Try.func47, Try.ntmps47
  go_wp2
  go_end0
  exact Hx.out

set_option maxRecDepth 100000 in
set_option maxHeartbeats 800000 in
theorem fe_hash2 (q base : Nat) (p : Addr) (K : Int) (w : World)
    (h3 : w.cell? ⟨q, 3, none⟩ = some (.int .i64 1)) (h12 : w.cell? ⟨q, 12, none⟩ = some (.bool false)) (f12 : w.frozen? ⟨q, 12, none⟩ = false) (p1 : w.cell? ⟨p.block, p.off + 1, none⟩ = some (.int .i64 K)) (g cap : Nat) (s : ByteArray) (hs : s.size ≤ 200) (hs0 : 0 < s.size) (p0 : w.cell? p = some (.slice (some ⟨g, 0, none⟩) 1 cap)) (ho : w.ownsRow base 9 1 (.slice (some ⟨g, 0, none⟩) 1 cap) 1 [.string s]) (hk : (K == 1) = false) (hq : g ≠ q) (hS : ((s[0].toNat : Int) == 35) = true) (h1 : ¬ 1 < s.size) (x y : Value) :
    Calls Try.prog 47 #[.pointer (some ⟨q, 0, none⟩), x, .pointer (some p), y] w (Turned w base q (.slice (some ⟨g, 0, none⟩) 1 cap) 1 [cSl ++ s.extract 1 s.size]) := by
  have Hx := Lib.hid (turned_set (s' := cSl ++ s.extract 1 s.size) h3 h12 f12 ho hq)
  have hg : w.cell? ⟨g, 0, none⟩ = some (.string s) := ho.cellAt 0 (by omega)
  have fg : w.frozen? ⟨g, 0, none⟩ = false := ho.frozenAt 0
  clear ho
  go_enter Try.func47, Try.ntmps47
  go_wp2
  go_end0
  exact Hx.out

set_option maxRecDepth 100000 in
set_option maxHeartbeats 800000 in
theorem fe_hash3 (q base : Nat) (p : Addr) (K : Int) (w : World)
    (h3 : w.cell? ⟨q, 3, none⟩ = some (.int .i64 1)) (h12 : w.cell? ⟨q, 12, none⟩ = some (.bool false)) (f12 : w.frozen? ⟨q, 12, none⟩ = false) (p1 : w.cell? ⟨p.block, p.off + 1, none⟩ = some (.int .i64 K)) (g cap : Nat) (s : ByteArray) (hs : s.size ≤ 200) (hs0 : 0 < s.size) (p0 : w.cell? p = some (.slice (some ⟨g, 0, none⟩) 1 cap)) (ho : w.ownsRow base 9 1 (.slice (some ⟨g, 0, none⟩) 1 cap) 1 [.string s]) (hk : (K == 1) = false) (hq : g ≠ q) (hS : ((s[0].toNat : Int) == 35) = true) (h1 : 1 < s.size) (hB : ((s[1].toNat : Int) == 33) = false) (x y : Value) :
    Calls Try.prog 47 #[.pointer (some ⟨q, 0, none⟩), x, .pointer (some p), y] w (Turned w base q (.slice (some ⟨g, 0, none⟩) 1 cap) 1 [cSl ++ s.extract 1 s.size]) := by
  have Hx := Lib.hid (turned_set (s' := cSl ++ s.extract 1 s.size) h3 h12 f12 ho hq)
  have hg : w.cell? ⟨g, 0, none⟩ = some (.string s) := ho.cellAt 0 (by omega)
  have fg : w.frozen? ⟨g, 0, none⟩ = false := ho.frozenAt 0
  clear ho
  go_enter Try.func47, Try.ntmps47
  go_wp2
  go_end0
  exact Hx.out

theorem stl_block {st : Int} {s : ByteArray} (h : stB s ⟨#[47, 42]⟩ = true) : stl st s = s := by
  obtain ⟨h1, e0, e1⟩ := (two_at s 47 42).1 h
  have n1 : stB s cSl = false := by
    rw [Bool.eq_false_iff]
    intro h2
    obtain ⟨_, _, e2⟩ := (two_at s 47 47).1 h2
    rw [e1] at e2
    exact absurd e2 (by decide)
  have n2 : stB s cHa = false := by
    rw [Bool.eq_false_iff]
    intro h2
    have := (ha_at s (by omega)).1 h2
    rw [e0] at this
    exact absurd this (by decide)
  simp [stl, n1, n2]
theorem byte_is (a b : UInt8) (n : Int) (hn : n = (b.toNat : Int)) : ((a.toNat : Int) == n) = decide (a = b) := by
  subst hn
  rw [Bool.eq_iff_iff, beq_iff_eq, decide_eq_true_eq]
  exact ⟨fun h => UInt8.toNat_inj.1 (by omega), fun h => by rw [h]⟩

theorem fe_any (q base : Nat) (p : Addr) (K B I : Int) (seen : Bool) (w : World) (st : Int) (hst : 0 ≤ st ∧ st ≤ 2)
    (h3 : w.cell? ⟨q, 3, none⟩ = some (.int .i64 st)) (h12 : w.cell? ⟨q, 12, none⟩ = some (.bool seen)) (f12 : w.frozen? ⟨q, 12, none⟩ = false) (p1 : w.cell? ⟨p.block, p.off + 1, none⟩ = some (.int .i64 K))
    (u : Value) (ss : List ByteArray) (p0 : w.cell? p = some u) (ho : w.ownsRow base 9 1 u ss.length (strs ss)) (hq : u.ownBlock ≠ some q)
    (hok : OkEl ⟨K, B, I, ss⟩) (hful : ∀ s ∈ ss, 0 < s.size) (hsig : SignedEl ⟨K, B, I, ss⟩) (hbang : seen = true → ∀ s, ss[0]? = some s → stB s cBa = false) (x y : Value) :
    Calls Try.prog 47 #[.pointer (some ⟨q, 0, none⟩), x, .pointer (some p), y] w (Turned w base q u st (sty st ⟨K, B, I, ss⟩).text) := by
  by_cases hn : ss.length = 1
  · obtain ⟨s, rfl⟩ : ∃ s, ss = [s] := List.length_eq_one_iff.1 hn
    have hs := hok.2.2.2.2.2.1 0 s rfl
    have hs0 := hful s (by simp)
    obtain ⟨hs1, hs2⟩ := hsig s rfl
    have e1 : (sty st ⟨K, B, I, [s]⟩).text = [stl st s] := rfl
    rw [e1]
    by_cases hk : K = 1
    · rw [stl_block (hs1.2 (.inl hk))]
      exact fe_one q base p K seen w st h3 h12 f12 p1 u [s] p0 ho hk x y
    have hk' : (K == 1) = false := by rw [beq_eq_false_iff_ne]; exact hk
    have hnb : stB s ⟨#[47, 42]⟩ = false := by
      rw [Bool.eq_false_iff]
      intro h
      rcases hs1.1 h with h | h
      · exact hk h
      · simp at h
    obtain ⟨g, cap, rfl, _, _⟩ := ho.form (by simp)
    have hq' : g ≠ q := fun e => hq (by rw [e]; rfl)
    rcases (by omega : st = 0 ∨ st = 1 ∨ st = 2) with rfl | rfl | rfl
    · cases hS : ((s[0].toNat : Int) == 47)
      · have : stl 0 s = s := by
          have n1 : stB s cSl = false := by
            rw [Bool.eq_false_iff]
            intro h2
            obtain ⟨_, e2, _⟩ := (two_at s 47 47).1 h2
            rw [byte_is s[0] 47 47 rfl, e2] at hS
            simp at hS
          simp [stl, n1]
        rw [this]
        exact fe_keep0 q base p K seen w h3 h12 f12 p1 g cap s hs hs0 p0 ho hk' hq' hS x y
      · have e0 : s[0] = 47 := by rw [byte_is s[0] 47 47 rfl] at hS; simpa using hS
        have n1 : stB s cSl = true := by
          rcases hs2 hnb with h | h
          · have := (ha_at s hs0).1 h
            rw [e0] at this
            exact absurd this (by decide)
          · exact h
        have : stl 0 s = cHa ++ s.extract 2 s.size := by simp [stl, n1]
        rw [this]
        exact fe_slash q base p K seen w h3 h12 f12 p1 g cap s hs hs0 p0 ho hk' hq' hS (by obtain ⟨h, _⟩ := (two_at s 47 47).1 n1; omega) x y
    · cases hS : ((s[0].toNat : Int) == 35)
      · have n1 : stB s cHa = false := by
          rw [Bool.eq_false_iff]
          intro h2
          have := (ha_at s hs0).1 h2
          rw [byte_is s[0] 35 35 rfl, this] at hS
          simp at hS
        have : stl 1 s = s := by simp [stl, n1]
        rw [this]
        exact fe_keep1 q base p K seen w h3 h12 f12 p1 g cap s hs hs0 p0 ho hk' hq' hS x y
      · have e0 : s[0] = 35 := by rw [byte_is s[0] 35 35 rfl] at hS; simpa using hS
        have n1 : stB s cHa = true := (ha_at s hs0).2 e0
        cases hbb : stB s cBa
        · have : stl 1 s = cSl ++ s.extract 1 s.size := by simp [stl, n1, hbb]
          rw [this]
          cases seen
          · by_cases h1 : 1 < s.size
            · refine fe_hash3 q base p K w h3 h12 f12 p1 g cap s hs hs0 p0 ho hk' hq' hS h1 ?_ x y
              rw [byte_is s[1] 33 33 rfl, decide_eq_false_iff_not]
              intro e
              exact absurd hbb (by rw [show stB s cBa = true from (two_at s 35 33).2 ⟨h1, e0, e⟩]; decide)
            · exact fe_hash2 q base p K w h3 h12 f12 p1 g cap s hs hs0 p0 ho hk' hq' hS h1 x y
          · exact fe_hash1 q base p K w h3 h12 f12 p1 g cap s hs hs0 p0 ho hk' hq' hS x y
        · have : stl 1 s = s := by simp [stl, hbb]
          rw [this]
          cases seen
          · obtain ⟨h1, _, e2⟩ := (two_at s 35 33).1 hbb
            exact fe_bang q base p K w h3 h12 f12 p1 g cap s hs hs0 p0 ho hk' hq' hS h1 (by rw [byte_is s[1] 33 33 rfl, e2]; rfl) x y
          · exact absurd (hbang rfl s rfl) (by rw [hbb]; decide)
    · have : stl 2 s = s := by simp [stl]
      rw [this]
      exact fe_keep2 q base p K seen w h3 h12 f12 p1 g cap s hs hs0 p0 ho hk' hq' x y
  · have e1 : (sty st ⟨K, B, I, ss⟩).text = ss := by unfold sty; rw [if_neg hn]
    rw [e1]
    by_cases hk : K = 1
    · exact fe_one q base p K seen w st h3 h12 f12 p1 u ss p0 ho hk x y
    · exact fe_many q base p K seen w st h3 h12 f12 p1 u ss p0 ho (by rw [beq_eq_false_iff_ne]; exact hk) (by rw [beq_eq_false_iff_ne]; omega) hq x y
end Go.Proofs.Ytdjnknkdnacbnaa
