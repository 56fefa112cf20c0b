/-
  nums, getArray, getInt. Conditions: none.
-/
import Derived.Test.YtnnmdceppjmooaaRemA
namespace Go.Proofs.Ytnnmdceppjmooaa
open Go.RowKit
set_option linter.unusedVariables false
set_option linter.unusedSimpArgs false

theorem thunk_next {w wr w2 : World} {k x : Nat} {v v2 : Value} {vs : List Value} {ys : List Nat} {o : Obj} (hbw : Below w.heap.size w wr)
    (ho : wr.ownsRow w.heap.size 112 1 v k vs) (hts : Thks wr vs ys)
    (hg2 : ((thunked wr x).alloc o).grownBy w2 v.ownBlock) : Thks w2 (vs ++ [.pointer (some ⟨wr.heap.size + 1, 0, none⟩)]) (ys ++ [x]) ∧ Below w.heap.size w w2 := by
  have hb3 : Below wr.heap.size wr ((thunked wr x).alloc o) := (thunked_below wr _).alloc (by rw [thunked_size]; omega) _
  have hk1 : NumKeep ((thunked wr x).alloc o) w2 := NumKeep.grown (ownsRow_below ho hb3) hg2 (by decide) (by decide)
  have hs := hbw.size
  refine ⟨(hts.keep ((NumKeep.below hb3).trans hk1)).append ⟨rfl, fun j u y a b => ?_⟩, (hbw.trans (hb3.mono hs)).grown hg2 (by have := hb3.size; omega) (fun a ha => (ho.lt a ha).1)⟩
  have hj : j = 0 := by have := (List.getElem?_eq_some_iff.1 a).1; simpa using this
  subst hj
  simp only [List.getElem?_cons_zero, Option.some.injEq] at a b
  subst a b
  exact ((thunked_thk wr x).keep (NumKeep.below ((Below.refl _ _).alloc (Nat.le_refl _) o))).keep hk1

set_option maxRecDepth 100000 in
set_option maxHeartbeats 800000 in
theorem nums_any (A : Option Addr) (c : Nat) (xs : List Nat) (hx : xs.length ≤ 200) (w : World) (h : Flo w A xs) : Calls Try.prog 40 #[.slice A xs.length c] w (ArrOut w xs) := by
  obtain ⟨i53, hi53, hz53, hz53', hz53''⟩ := info_parts info_ptr
  have HR := Lib.hid h
  clear h
  go_enter Try.func40, Try.ntmps40
  go_wp2
  go_loopw [3, 8] (fun out i wr => ∃ (k : Nat) (vs : List Value), k ≤ xs.length ∧ i = .int .i64 k ∧ wr.ownsRow w.heap.size 112 1 out k vs ∧ Thks wr vs (xs.take k) ∧ Below w.heap.size w wr) (fun _ i _ => xs.length - (intOf i).toNat)
  case atStart => exact ⟨0, [], by omega, rfl, World.ownsRow_nil _ _ _ _, Thks.nil _, Below.refl _ _⟩
  case round =>
    obtain ⟨k, vs, hk, rfl, ho, ht, hbw⟩ := hrel
    have Ho := Lib.hid ho
    have Ht := Lib.hid ht
    have Hbw := Lib.hid hbw
    have hsw := hbw.size
    by_cases hlt : k < xs.length
    · obtain ⟨ad, x, rfl, hb, hxk, hc0⟩ := HR.out.at_ hlt
      have hc := (hbw.cell (p := ad.add k) (by rw [block_of_add]; exact hb)).trans hc0
      have Hxk := Lib.hid hxk
      have z0 : (0 : Int) ≤ (k : Int) := by omega
      have z1 : (k : Int) < (xs.length : Int) := by omega
      clear ho ht hbw hxk hc0
      go_wp2_with (first
        | (go_at_call 30; refine (num_made _ _).mono ?_; rintro e' w1 ⟨rfl, rfl⟩)
        | (go_at_call 58; refine (ready_any _ _ _).mono ?_; rintro e' w1 ⟨rfl, rfl⟩)
        | (at_builtin; refine wpList_append_lies _ rfl (.tmp 12) (.tmp 16) _ rfl w.heap.size 112 i53 _ 1 8 Try.underlying109 hi53 hz53 hz53' hz53'' rfl (by omega) u3 k vs rfl (((Ho.out.alloc _).alloc _).alloc _) ⟨wr.heap.size + 2, 0, none⟩ 1 1 [.pointer (some ⟨wr.heap.size + 1, 0, none⟩)] rfl rfl (news_at _ _ _ _ (by simp)) (by simp [Value.oneCell']) (by omega) (by simp only [maxLen]; omega) (by omega) (by simp; omega) (wr.heap.size + 3) (by simp) ?_; intro g2 cap2 w4 hown4 hg4 hat4 hlt4))
      have HX := Lib.hid (thunk_next (v2 := .nilIface) (x := x) Hbw.out Ho.out Ht.out hg4)
      have HO := Lib.hid hown4
      have HT : Hid (Thks w4 (vs ++ [.pointer (some ⟨wr.heap.size + 1, 0, none⟩)]) (xs.take (k + 1))) := by
        have e : xs.take (k + 1) = xs.take k ++ [x] := by
          obtain ⟨hk, he⟩ := List.getElem?_eq_some_iff.1 Hxk.out
          rw [List.take_succ_eq_append_getElem hk, he]
        show Thks _ _ _
        rw [e]
        exact HX.out.1
      clear hown4 hg4 hat4 hlt4
      go_wp2
      go_roundw
      case rel => exact ⟨k + 1, _, by omega, by go_num, HO.out, HT.out, HX.out.2⟩
      case measure => simp [intOf]; omega
    · obtain rfl : xs.length = k := by omega
      have HT : Hid (Thks wr vs xs) := by
        have := Ht.out
        rw [List.take_length] at this
        exact this
      clear ho ht hbw
      go_wp2_with (go_at_call 57; refine (array_any _ vs xs _ _ Ho.out HT.out (by omega)).mono ?_; rintro e' w1 ⟨p, rfl, harr, hb1⟩)
      have HA := Lib.hid harr
      have HB := Lib.hid (Hbw.out.trans (hb1.mono hsw))
      clear harr hb1
      go_ret
      exact ⟨p, rfl, HA.out, HB.out⟩

set_option maxRecDepth 100000 in
theorem getArray_any (i : Value) (p : Nat) (w : World) : Calls Try.prog 55 #[i, .iface 90 (.pointer (some ⟨p, 0, none⟩))] w fun e w' =>
    e = .returned (.tuple #[.pointer (some ⟨p, 0, none⟩), .nilIface]) ∧ w = w' := by
  have ht : ∀ w, (Instr.typeAssert (.iface 90 (.pointer (some ⟨p, 0, none⟩))) 56 90 true).run Try.prog w = .ok (.tuple #[.pointer (some ⟨p, 0, none⟩), .bool true]) w := fun _ => by kernel_rfl
  go_enter Try.func55, Try.ntmps55
  go_wp2
  go_ret2
  exact ⟨rfl, rfl⟩

theorem int_back32 (n : Int) (h0 : 0 ≤ n) (h : n < 1000) : floatToIntVal .f64 (floatOfInt .f64 n) .i32 = some n := by
  show floatToIntVal .f64 (FloatKind.f64.nearest n) .i32 = some n
  obtain ⟨m, i, hd, hi, hs⟩ := int_read n (by omega)
  unfold floatToIntVal
  have e : Ieee.Datum.toInt .zero (FloatKind.f64.decode (FloatKind.f64.nearest n)) = some n := by
    rw [hd, toInt_sc _ _ _ hi, hs, Int.mul_tdiv_cancel _ K_ne]
  first
  | (show (match Ieee.Datum.toInt .zero (FloatKind.f64.decode (FloatKind.f64.nearest n)) with | some x => _ | none => _) = _
     rw [e]
     simp only
     rw [if_pos]
     show -2147483648 ≤ n ∧ n ≤ 2147483647
     omega)
  | (rw [toInt_word hd]
     simp only
     rw [hs, Int.mul_tdiv_cancel _ K_ne]
     rw [if_pos]
     show -2147483648 ≤ n ∧ n ≤ 2147483647
     omega)
set_option maxRecDepth 100000 in
theorem conv_some {y : Nat} {x : Int} (h : floatToIntVal .f64 y .i32 = some x) (w : World) : (convert 22 21 (.float .f64 y)).run Try.prog w = .ok (.int .i32 x) w := by
  unfold floatToIntVal at h
  have hs : Try.prog.underlying 22 = some (.float .f64) := Try.underlying22
  split at h
  · rename_i m he
    split at h
    · rename_i hb
      injection h with h
      subst h
      simp only [convert, run_underlying hs, run_underlying Try.underlying21, Conv.floatToInt, he, Sem.run_bind, Result.andThen, if_pos hb, Sem.run_pure]
    · cases h
  · cases h
theorem int_fin (n : Int) (h : n.natAbs < 9007199254740992) : Fin (floatOfInt .f64 n) := by
  obtain ⟨m, i, hd, _⟩ := int_read n h
  exact ⟨_, _, _, hd⟩

set_option maxRecDepth 100000 in
theorem getInt_any (i : Value) (p : Nat) (n : Nat) (hn : n < 1000) (w : World) (h : Blk w p 97 #[.float .f64 (floatOfInt .f64 (n : Int))]) : Calls Try.prog 56 #[i, .iface 92 (.pointer (some ⟨p, 0, none⟩))] w fun e w' =>
    e = .returned (.tuple #[.int .i64 n, .nilIface]) ∧ w = w' := by
  obtain ⟨y, hy⟩ : ∃ y, floatOfInt .f64 (n : Int) = y := ⟨_, rfl⟩
  have hfb := fun (w : World) => conv_some (int_back32 (n : Int) (by omega) (by omega)) w
  have hfs : (FloatKind.f64.format.order y y != some .eq) = false := by rw [← hy, fin_self (int_fin _ (by omega))]; rfl
  rw [hy] at h hfb
  have c0 : w.cell? ⟨p, 0, none⟩ = some (.float .f64 y) := h.cell 0
  have hl := h.lt
  have hcv : ∀ w, (convert 3 22 (.int .i64 (n : Int))).run Try.prog w = .ok (.float .f64 y) w := fun w => by
    rw [← hy]
    first
    | exact run_convert_int_float w _ _ _ _ _ Try.underlying3 Try.underlying22
    | (simp only [convert, run_underlying Try.underlying3, run_underlying Try.underlying22, Sem.run_bind, Result.andThen, Sem.run_pure]; rfl)
  have Hy := Lib.hid hy
  clear h hy
  go_enter Try.func56, Try.ntmps56
  go_wp2_with (go_at_call 60; refine (getNum_any _ _ _).mono ?_; rintro e' w1 ⟨rfl, rfl⟩)
  go_ret2
  exact ⟨rfl, rfl⟩
end Go.Proofs.Ytnnmdceppjmooaa
