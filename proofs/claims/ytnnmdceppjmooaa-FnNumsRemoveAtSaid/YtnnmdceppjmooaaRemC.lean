/-
  removeAt, numsOf. Conditions: none.
-/
import Derived.Test.YtnnmdceppjmooaaRemB
namespace Go.Proofs.Ytnnmdceppjmooaa
open Go.RowKit
set_option linter.unusedVariables false
set_option linter.unusedSimpArgs false

section
variable {P : Program} {w : World} {B : Nat} {A : Option Addr} {n c k : Nat} {vs : List Value}
theorem cut_head (T : TypeId) (ht : P.underlying T = some (.slice (P.elem T))) (hs : ∀ W, (sizeOf (P.elem T)).run P W = .ok 1 W) (h : Reads w B 1 A n vs) (hk : k ≤ n) (hc : n ≤ c) (kd : IntKind) :
    ∃ A', Reads w B 1 A' k (vs.take k) ∧ ∀ W, (Instr.sliceAt T (.slice A n c) none (some (.int kd (k : Nat))) none).run P W = .ok (.slice A' k c) W := by
  refine ⟨if c = 0 then A else A.map (·.add (0 * 1)), ⟨by rw [List.length_take, h.1]; omega, fun hn => ?_⟩, fun W => ?_⟩
  · obtain ⟨ad, rfl, hb, hcell⟩ := h.2 (by omega)
    rw [if_neg (by omega)]
    refine ⟨ad.add (0 * 1), rfl, by rw [block_of_add]; exact hb, fun j u hu => ?_⟩
    rw [add_of_add]
    rw [List.getElem?_take] at hu
    split at hu
    · rw [show 0 * 1 + j = j by omega]; exact hcell j u hu
    · cases hu
  · rw [run_sliceAt_slice W T _ _ _ _ ht, run_slice_h W T A n c ht kd (k : Int) (by omega) (by omega), hs]
    simp [sliced, Result.andThen]
theorem cut_tail (T : TypeId) (ht : P.underlying T = some (.slice (P.elem T))) (hs : ∀ W, (sizeOf (P.elem T)).run P W = .ok 1 W) (h : Reads w B 1 A n vs) (hk : k ≤ n) (hc : n ≤ c) (kd : IntKind) :
    ∃ A', Reads w B 1 A' (n - k) (vs.drop k) ∧ ∀ W, (Instr.sliceAt T (.slice A n c) (some (.int kd (k : Nat))) none none).run P W = .ok (.slice A' (n - k) (c - k)) W := by
  refine ⟨_, by simpa using h.cut hk hc, fun W => ?_⟩
  rw [run_sliceAt_slice W T _ _ _ _ ht, run_slice_l W T A n c ht kd (k : Int) (by omega) (by omega), hs]
  simp [sliced, Result.andThen]
end
theorem size_ptr (W : World) : (sizeOf (Try.prog.elem 109)).run Try.prog W = .ok 1 W := by kernel_rfl
theorem size_float (W : World) : (sizeOf (Try.prog.elem 34)).run Try.prog W = .ok 1 W := by kernel_rfl

/-- A list without the element at a place. -/
def without (xs : List Nat) (k : Nat) : List Nat := xs.take k ++ xs.drop (k + 1)
theorem without_length {xs : List Nat} {k : Nat} (h : k < xs.length) : (without xs k).length = k + (xs.length - (k + 1)) := by simp [without]; omega

/-- An array as a value, no error. -/
def ArrVal (w : World) (xs : List Nat) (e : Ending) (w' : World) : Prop := ∃ p, e = .returned (.tuple #[.iface 90 (.pointer (some ⟨p, 0, none⟩)), .nilIface]) ∧ Arr w' p xs ∧ Below w.heap.size w w'

set_option maxRecDepth 100000 in
set_option maxHeartbeats 800000 in
theorem removed_any (i : Value) (p q : Nat) (xs : List Nat) (k : Nat) (hk : k < xs.length) (hx : xs.length ≤ 200) (w : World) (h : Arr w p xs) (hq : Blk w q 97 #[.float .f64 (floatOfInt .f64 (k : Int))]) :
    Calls Try.prog 39 #[i, .iface 90 (.pointer (some ⟨p, 0, none⟩)), .iface 92 (.pointer (some ⟨q, 0, none⟩))] w (ArrVal w (without xs k)) := by
  obtain ⟨i53, hi53, hz53, hz53', hz53''⟩ := info_parts info_ptr
  obtain ⟨A, c, vs, hb, hc, hr, ht⟩ := h
  obtain ⟨A1, hr1, hs1⟩ := cut_head (P := Try.prog) 109 Try.underlying109 size_ptr hr (k := k) (by omega) hc .i64
  obtain ⟨A2, hr2, hs2⟩ := cut_tail (P := Try.prog) 109 Try.underlying109 size_ptr hr (k := k + 1) (by omega) hc .i64
  have c0 : w.cell? ⟨p, 0, none⟩ = some (.slice A xs.length c) := hb.cell 0
  have hpl := hb.lt
  have hwr : IntKind.i64.wrap ((k : Int) + 1) = (k : Int) + 1 := by rw [IntKind.wrap_i64]; omega
  rw [show ((k + 1 : Nat) : Int) = (k : Int) + 1 by omega] at hs2
  have Hq := Lib.hid hq
  have H1 := Lib.hid hr1
  have H2 := Lib.hid hr2
  have HT := Lib.hid ht
  have o1 : Hid (∀ u ∈ vs.take k, u.oneCell' = true) := fun u hu => ht.one u (List.mem_of_mem_take hu)
  have o2 : Hid (∀ u ∈ vs.drop (k + 1), u.oneCell' = true) := fun u hu => ht.one u (List.mem_of_mem_drop hu)
  have HB := Lib.hid hb
  clear hb hr ht hq hr1 hr2
  go_enter Try.func39, Try.ntmps39
  go_wp2_with (first
    | (go_at_call 55; refine (getArray_any _ _ _).mono ?_; rintro e' w1 ⟨rfl, rfl⟩)
    | (go_at_call 56; refine (getInt_any _ _ k (by omega) _ Hq.out).mono ?_; rintro e' w1 ⟨rfl, rfl⟩)
    | (at_builtin; refine wpList_append_any w rfl (.tmp 30) (.tmp 36) _ rfl w.heap.size 112 i53 _ 1 8 Try.underlying109 hi53 hz53 hz53' hz53'' rfl (by omega) (.slice none 0 0) 0 [] rfl (World.ownsRow_nil _ _ _ _) w.heap.size A1 k c (vs.take k) rfl H1.out o1.out (by simp only [maxLen]; omega) (by omega) (by omega) ?_; intro v1 w1 hown1 hg1 hat1; have hb1 : Below w.heap.size w w1 := (Below.refl _ _).grown hg1 (Nat.le_refl _) (by simp [Value.ownBlock]); have d0 : w1.cell? ⟨p, 0, none⟩ = some (.slice A xs.length c) := (hb1.cell (p := ⟨p, 0, none⟩) hpl).trans c0)
    | (at_builtin; refine wpList_append_any w1 rfl (.tmp 38) (.tmp 45) _ rfl w.heap.size 112 i53 _ 1 8 Try.underlying109 hi53 hz53 hz53' hz53'' rfl (by omega) v1 (0 + k) ([] ++ vs.take k) rfl hown1 w.heap.size A2 (xs.length - (k + 1)) (c - (k + 1)) (vs.drop (k + 1)) rfl (H2.out.below hb1) o2.out (by simp only [maxLen]; omega) (by omega) hb1.size ?_; intro v2 w2 hown2 hg2 hat2))
  have hb2 : Below w.heap.size w w2 := hb1.grown hg2 hb1.size (fun a ha => (hown1.lt a ha).1)
  have hown : Hid (w2.ownsRow w.heap.size 112 1 v2 (without xs k).length (vs.take k ++ vs.drop (k + 1))) := by
    show World.ownsRow _ _ _ _ _ _ _
    rw [without_length hk]
    simpa using hown2
  have HB2 := Lib.hid hb2
  have hs2 := hb2.size
  have HT2 : Hid (Thks w2 (vs.take k ++ vs.drop (k + 1)) (without xs k)) := ((HT.out.take k).append (HT.out.drop (k + 1))).keep (NumKeep.below hb2)
  have hwl := without_length hk
  clear hb1 d0 hown1 hg1 hat1 hown2 hg2 hat2 hb2
  go_wp2_with (go_at_call 57; refine (array_any _ _ (without xs k) _ _ hown.out HT2.out (by omega)).mono ?_; rintro e' w3 ⟨p3, rfl, harr, hb3⟩)
  have HA := Lib.hid harr
  have HB3 := Lib.hid (HB2.out.trans (hb3.mono hs2))
  clear harr hb3
  go_ret2
  exact ⟨p3, rfl, HA.out, HB3.out⟩
end Go.Proofs.Ytnnmdceppjmooaa
