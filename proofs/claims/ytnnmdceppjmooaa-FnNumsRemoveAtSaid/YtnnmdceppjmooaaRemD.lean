/-
  numsOf, PartRemoveAt, NumsRemoveAt. Conditions: none.
-/
import Derived.Test.YtnnmdceppjmooaaRemC
namespace Go.Proofs.Ytnnmdceppjmooaa
open Go.RowKit
set_option linter.unusedVariables false
set_option linter.unusedSimpArgs false

/-- A list of numbers of the call's own, and one more word. -/
def FloOut (w : World) (u : Value) (xs : List Nat) (e : Ending) (w' : World) : Prop := ∃ v, e = .returned (.tuple #[v, u]) ∧ w'.ownsRow w.heap.size 22 1 v xs.length (floats xs) ∧ Below w.heap.size w w'

set_option maxRecDepth 100000 in
set_option maxHeartbeats 800000 in
theorem numsOf_any (p : Nat) (xs : List Nat) (hx : xs.length ≤ 400) (w : World) (h : Arr w p xs) : Calls Try.prog 38 #[.iface 90 (.pointer (some ⟨p, 0, none⟩)), .nilIface] w (FloOut w .nilIface xs) := by
  obtain ⟨i3, hi3, hz3, hz3', hz3''⟩ := info_parts info_float
  obtain ⟨A, c, vs, hb, hc, hr, ht⟩ := h
  have hta : ∀ w, (Instr.typeAssert (.iface 90 (.pointer (some ⟨p, 0, none⟩))) 56 90 false).run Try.prog w = .ok (.pointer (some ⟨p, 0, none⟩)) w := fun _ => by kernel_rfl
  have c0 : w.cell? ⟨p, 0, none⟩ = some (.slice A xs.length c) := hb.cell 0
  have hpl := hb.lt
  have HR := Lib.hid hr
  have HT := Lib.hid ht
  clear hb hr ht
  go_enter Try.func38, Try.ntmps38
  go_wp2
  go_loopw [6, 18] (fun out i wr => ∃ k : Nat, k ≤ xs.length ∧ i = .int .i64 k ∧ wr.ownsRow w.heap.size 22 1 out k (floats (xs.take k)) ∧ Below w.heap.size w wr) (fun _ i _ => xs.length - (intOf i).toNat)
  case atStart => exact ⟨0, by omega, rfl, World.ownsRow_nil _ _ _ _, Below.refl _ _⟩
  case round =>
    obtain ⟨k, hk, rfl, hzs, hbw⟩ := hrel
    have Hzs := Lib.hid hzs
    have Hza := Lib.hid hzs.lt
    have Hbw := Lib.hid hbw
    have hsw := hbw.size
    by_cases hlt : k < xs.length
    · obtain ⟨ad, u, rfl, hb, hu, hc0⟩ := HR.out.at_ hlt
      have hxk : xs[k]? = some xs[k] := List.getElem?_eq_getElem hlt
      obtain ⟨pt, pp, rfl, hb1, hb2⟩ := (HT.out.2 k u _ hu hxk).keep (NumKeep.below hbw)
      generalize xs[k] = x at hxk hb2
      have hc1 := (hbw.cell (p := ad.add k) (by rw [block_of_add]; exact hb)).trans hc0
      have q1 : wr.cell? ⟨pt, 2, none⟩ = some (.iface 92 (.pointer (some ⟨pp, 0, none⟩))) := hb1.cell 2
      have q2 : wr.cell? ⟨pp, 0, none⟩ = some (.float .f64 x) := hb2.cell 0
      have htn : ∀ w, (Instr.typeAssert (.iface 92 (.pointer (some ⟨pp, 0, none⟩))) 56 92 false).run Try.prog w = .ok (.pointer (some ⟨pp, 0, none⟩)) w := fun _ => by kernel_rfl
      have Hxk := Lib.hid hxk
      have z0 : (0 : Int) ≤ (k : Int) := by omega
      have z1 : (k : Int) < (xs.length : Int) := by omega
      clear hb1 hb2 hzs hbw hc0 hu hxk
      go_wp2_with (at_builtin; refine wpList_append_lies _ rfl (.tmp 22) (.tmp 31) _ rfl w.heap.size 22 i3 _ 1 8 Try.underlying34 hi3 hz3 hz3' hz3'' rfl (by omega) u6 k (floats (xs.take k)) rfl (Hzs.out.alloc _) ⟨wr.heap.size, 0, none⟩ 1 1 [.float .f64 x] rfl rfl (news_at _ _ _ _ (by simp)) (by simp [Value.oneCell']) (by omega) (by simp only [maxLen]; omega) (by omega) (by simp; omega) (wr.heap.size + 1) (by simp) ?_; intro g2 cap2 w4 hown4 hg4 hat4 hlt4)
      have hN := Lib.hid (show w4.ownsRow w.heap.size 22 1 (.slice (some ⟨g2, 0, none⟩) (k + 1) cap2) (k + 1) (floats (xs.take (k + 1))) from by rw [floats_snoc Hxk.out]; exact hown4)
      have hB := Lib.hid (Hbw.out.trans ((((Below.refl _ _).alloc (Nat.le_refl _) _).mono Hbw.out.size).grown hg4 (by have := Hbw.out.size; simp; omega) (fun a ha => (Hza.out a ha).1)))
      clear hown4 hg4 hat4 hlt4
      go_wp2
      go_roundw
      case rel => exact ⟨k + 1, by omega, by go_num, hN.out, hB.out⟩
      case measure => simp [intOf]; omega
    · obtain rfl : xs.length = k := by omega
      have hO : Hid (wr.ownsRow w.heap.size 22 1 u6 xs.length (floats xs)) := by
        have := Hzs.out
        rw [List.take_length] at this
        exact this
      clear hzs hbw
      go_wp2
      go_ret2
      exact ⟨_, rfl, hO.out, Hbw.out⟩

theorem Blk.arr_keep {w w' : World} (h : Below w.heap.size w w') {p : Nat} {t : TypeId} {cs : Array Value} (hb : Blk w p t cs) : Blk w' p t cs := hb.later h

set_option maxRecDepth 100000 in
set_option maxHeartbeats 800000 in
theorem part_any (A : Option Addr) (c : Nat) (xs : List Nat) (k : Nat) (hk : k < xs.length) (hx : xs.length ≤ 200) (w : World) (h : Flo w A xs) :
    Calls Try.prog 27 #[.slice A xs.length c, .int .i64 k] w (FloOut w .nilIface (without xs k)) := by
  have HR := Lib.hid h
  have hwl := without_length hk
  clear h
  go_enter Try.func27, Try.ntmps27
  go_wp2_with (first
    | (go_at_call 40; refine (nums_any A c xs hx _ (HR.out.below ((Below.refl _ _).alloc (Nat.le_refl _) _))).mono ?_; rintro e' w1 ⟨p, rfl, ha1, hb1⟩; have hB1 : Below w.heap.size w w1 := ((Below.refl _ _).alloc (Nat.le_refl _) _).trans (hb1.mono (by simp)))
    | (go_at_call 41; refine (intval_any _ _).mono ?_; rintro e' w2 ⟨rfl, rfl⟩)
    | (go_at_call 39; refine (removed_any _ p w1.heap.size xs k hk hx _ (ha1.below ((Below.refl _ _).alloc (Nat.le_refl _) _)) (Blk.new w1 _ _)).mono ?_; rintro e' w3 ⟨p3, rfl, ha3, hb3⟩; have hB3 : Below w.heap.size w w3 := hB1.trans ((((Below.refl _ _).alloc (Nat.le_refl _) _).trans (hb3.mono (by simp))).mono hB1.size))
    | (go_at_call 38; refine (numsOf_any p3 (without xs k) (by omega) _ ha3).mono ?_; rintro e' w4 ⟨v, rfl, ho, hb4⟩; have hO := Lib.hid (own_base ho hB3.size); have hB4 := Lib.hid (hB3.trans (hb4.mono hB3.size)); clear ho hb4))
  go_ret2
  exact ⟨_, rfl, hO.out, hB4.out⟩

set_option maxRecDepth 100000 in
theorem listed_any (v : Value) (w : World) : Calls Try.prog 26 #[v, .nilIface] w fun e w' => e = .returned (.tuple #[v, .bool true]) ∧ w = w' := by
  go_enter Try.func26, Try.ntmps26
  go_wp2
  go_ret2
  exact ⟨rfl, rfl⟩

set_option maxRecDepth 100000 in
theorem remove_yes (A : Option Addr) (c : Nat) (xs : List Nat) (k : Nat) (hk : k < xs.length) (hx : xs.length ≤ 200) (w : World) (h : Flo w A xs) :
    Calls Try.prog 15 #[.slice A xs.length c, .int .i64 k] w (FloOut w (.bool true) (without xs k)) := by
  have HR := Lib.hid h
  have z0 : (0 : Int) ≤ (k : Int) := by omega
  have z1 : (k : Int) < (xs.length : Int) := by omega
  clear h
  go_enter Try.func15, Try.ntmps15
  go_wp2_with (first
    | (go_at_call 27; refine (part_any A c xs k hk hx _ HR.out).mono ?_; rintro e' w1 ⟨v, rfl, ho, hb1⟩; have hO := Lib.hid ho; have hB1 := Lib.hid hb1; clear ho hb1)
    | (go_at_call 26; refine (listed_any _ _).mono ?_; rintro e' w2 ⟨rfl, rfl⟩))
  go_ret2
  exact ⟨_, rfl, hO.out, hB1.out⟩
set_option maxRecDepth 100000 in
theorem remove_no (A : Option Addr) (c : Nat) (n : Nat) (k : Int) (hk : k < 0 ∨ (n : Int) ≤ k) (w : World) :
    Calls Try.prog 15 #[.slice A n c, .int .i64 k] w fun e w' => e = .returned (.tuple #[.slice none 0 0, .bool false]) ∧ w = w' := by
  by_cases h0 : k < 0
  · clear hk
    go_enter Try.func15, Try.ntmps15
    go_wp2
    go_ret2
    exact ⟨rfl, rfl⟩
  · have h1 : (n : Int) ≤ k := by omega
    clear hk
    go_enter Try.func15, Try.ntmps15
    go_wp2
    go_ret2
    exact ⟨rfl, rfl⟩
end Go.Proofs.Ytnnmdceppjmooaa
