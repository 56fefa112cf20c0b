/-
  The law FnNumsRemoveAt. Conditions: none.
-/
import Derived.Test.YtnnmdceppjmooaaRemE
import Derived.Test.YtnnmdceppjmooaaOpen
import Derived.Deep.RegionHeld3
import Derived.BigRegion
import Derived.DataShut
import Derived.Deep.DrawnRows
namespace Go.Proofs.Ytnnmdceppjmooaa
open Go.ChangeShapes Go.WideShapes Go.Deep Go.RowKit
set_option linter.unusedVariables false
set_option linter.unusedSimpArgs false

section
variable {H : Type} {enc : TypeId × Value → H} {P : Program} {w : World} {base : Nat} {spare : Nat → Bool} {held : Bool}
theorem trod_float {k : FloatKind} {t : TypeId} {fuel : Nat} {cs : List Value} {x : DataW H × List MemPlace} (ht : P.underlying t = some (.float k)) (h : DataW.trod enc P w base spare held fuel t cs = some x) : ∃ b, cs = [.float k b] ∧ (Lit.float k b).wf = true := by
  cases fuel with
  | zero => simp [DataW.trod] at h
  | succ n =>
    unfold DataW.trod at h
    rw [ht] at h
    split at h <;> simp_all
theorem open_floats {t e : TypeId} {fuel : Nat} {v : Value} {x : DataW H × List MemPlace} (ht : P.underlying t = some (.slice e)) (he : P.underlying e = some (.float .f64)) (hc : P.cellsOf e = 1)
    (h : DataW.trod enc P w 0 spare held fuel t [v] = some x) : ∃ xs A c, v = .slice A xs.length c ∧ xs.length ≤ c ∧ Flo w A xs ∧ xs.length ≤ maxLen ∧ Wds xs := by
  rcases open_slice1 ht hc h with ⟨h0, _⟩ | ⟨a, len, cap, m, n, V, D, Pl, h0, _, hl, hm, hmm, _, hi⟩
  · injection h0 with h0
    subst h0
    exact ⟨[], none, 0, rfl, Nat.le_refl _, Reads.none_, Nat.zero_le _, fun x h => by cases h⟩
  · injection h0 with h0
    subst h0
    have hlm : len ≤ m := by rw [hmm]; split <;> omega
    have hf : ∀ i, i < len → ∃ b, w.cell? (a.add i) = some (.float .f64 b) ∧ b < 18446744073709551616 := fun i hil => by
      obtain ⟨h1, h2⟩ := hi i (by omega)
      obtain ⟨b, hb, hw⟩ := trod_float he h2
      injection hb with hb
      rw [hb] at h1
      exact ⟨b, h1, by simpa [Lit.wf] using hw⟩
    obtain ⟨G, hG⟩ : ∃ G : Nat → Nat, ∀ i, i < len → w.cell? (a.add i) = some (.float .f64 (G i)) ∧ G i < 18446744073709551616 := by
      refine ⟨fun i => if hil : i < len then Classical.choose (hf i hil) else 0, fun i hil => ?_⟩
      simp only [dif_pos hil]
      exact Classical.choose_spec (hf i hil)
    refine ⟨(List.range len).map G, some a, cap, by simp, by simpa using hl, ⟨by simp [floats], fun hn => ?_⟩, by simp; omega, fun x hx => ?_⟩
    · simp only [List.length_map, List.length_range] at hn
      refine ⟨a, rfl, ?_, fun j u hu => ?_⟩
      · have h0 := (hG 0 (by omega)).1
        have := World.block_lt_of_cell? w _ h0
        rwa [block_of_add] at this
      · have hj : j < len := by have := (List.getElem?_eq_some_iff.1 hu).1; simpa [floats] using this
        have : (floats ((List.range len).map G))[j]? = some (.float .f64 (G j)) := by simp [floats, hj]
        rw [this] at hu
        injection hu with hu
        subst hu
        exact (hG j hj).1
    · simp only [List.mem_map, List.mem_range] at hx
      obtain ⟨i, hil, rfl⟩ := hx
      exact (hG i hil).2
end
theorem floats_arg {H : Type} {enc : TypeId × Value → H} {W : World} {v : Value} {d : DataW H} {p : List MemPlace} (h : DataW.Trod enc Try.prog W 0 (fun _ => true) true 34 v d p) (hv : ∃ a n c, v = .slice a n c) :
    ∃ xs A c, v = .slice A xs.length c ∧ xs.length ≤ c ∧ Flo W A xs ∧ xs.length ≤ maxLen ∧ Wds xs := by
  obtain ⟨fuel, hf⟩ := h
  obtain ⟨a, n, c, rfl⟩ := hv
  exact open_floats Try.underlying34 Try.underlying22 (by kernel_rfl) hf

def TrueBelow (w : World) (e : Ending) (w' : World) : Prop := e = .returned (.bool true) ∧ Below w.heap.size w w'
theorem below_drew {B : Nat} {w w' : World} (h : Below B w.drew w') : Below B w w' := ⟨h.os, h.tape, h.output, h.size, h.block⟩
theorem below_drewN {B : Nat} {a w : World} (h : Below B a w) (n : Nat) : Below B a (w.drewN n) := ⟨h.os, h.tape, h.output, h.size, h.block⟩
theorem without_at {xs : List Nat} {k i x : Nat} (h : (without xs k)[i]? = some x) : ∃ j : Nat, xs[j]? = some x := by
  have hm := List.mem_of_getElem? h
  unfold without at hm
  rw [List.mem_append] at hm
  rcases hm with h | h
  · exact List.getElem?_of_mem (List.mem_of_mem_take h)
  · exact List.getElem?_of_mem (List.mem_of_mem_drop h)
theorem floats_take (xs : List Nat) (k : Nat) : floats (xs.take k) = (floats xs).take k := by simp [floats, List.map_take]
theorem floats_drop (xs : List Nat) (k : Nat) : floats (xs.drop k) = (floats xs).drop k := by simp [floats, List.map_drop]

set_option maxRecDepth 100000 in
set_option maxHeartbeats 20000000 in
theorem walkRem (A : Option Addr) (c : Nat) (xs : List Nat) (hc : xs.length ≤ c) (hm : xs.length ≤ maxLen) (hw : Wds xs) (at_ : Int) (h0 : -2147483648 ≤ at_) (h1 : at_ ≤ 2147483647) (w : World) (h : Flo w A xs) :
    Calls Try.prog 6 #[.slice A xs.length c, .int .i32 at_] w (TrueBelow w) := by
  by_cases hz : 2147483647 < xs.length
  · have hz' : (2147483647 : Int) < (xs.length : Int) := by omega
    clear hw h h0 h1 hc hm
    go_enter Try.func6, Try.ntmps6
    go_wp2
    go_ret
    exact ⟨rfl, Below.refl _ _⟩
  have hz' : ¬ (2147483647 : Int) < (xs.length : Int) := by omega
  have hwr : IntKind.i64.wrap at_ = at_ := by rw [IntKind.wrap_i64]; omega
  have HR := Lib.hid h
  have HW := Lib.hid hw
  have Hm := Lib.hid hm
  have Hb : Hid (-2147483648 ≤ at_ ∧ at_ ≤ 2147483647) := ⟨h0, h1⟩
  clear h hw hm h0 h1
  go_enter Try.func6, Try.ntmps6
  go_wp2_with fail
  go_at_call 14
  refine (finite7_any _ A c _ xs HW.out Hm.out _ (HR.out.below ((Below.refl _ _).alloc (Nat.le_refl _) _)) (by simp [go_sem])).mono ?_
  rintro e' w1 ⟨⟨b, rfl, hS⟩, rfl⟩
  have HS := Lib.hid hS
  clear hS
  cases b
  · go_wp2
    go_ret
    exact ⟨rfl, (Below.refl _ _).alloc (Nat.le_refl _) _⟩
  have HS2 : Hid (Short xs) := HS.out rfl
  have h200 := HS2.out.2
  have hbw : Below w.heap.size w (w.alloc (.cells #[.slice A xs.length c] 34)) := (Below.refl _ _).alloc (Nat.le_refl _) _
  have HF : Hid (Flo (w.alloc (.cells #[.slice A xs.length c] 34)) A xs) := HR.out.below hbw
  have HB := Lib.hid hbw
  clear hbw HS HR
  generalize w.alloc (.cells #[.slice A xs.length c] 34) = w1 at *
  by_cases hr : at_ < 0 ∨ (xs.length : Int) ≤ at_
  · have hd : at_ < 0 ∨ ¬ at_ < 0 ∧ (xs.length : Int) ≤ at_ := by omega
    go_wp2_with fail
    go_at_call 15
    refine (remove_no A c xs.length at_ hr _).mono ?_
    rintro e' w2 ⟨rfl, rfl⟩
    clear hr
    rcases hd with hd | ⟨hd1, hd2⟩
    · go_wp2
      go_ret
      exact ⟨rfl, HB.out⟩
    · go_wp2
      go_ret
      exact ⟨rfl, HB.out⟩
  · obtain ⟨k, rfl⟩ : ∃ k : Nat, at_ = (k : Int) := ⟨at_.toNat, by omega⟩
    have hk : k < xs.length := by omega
    clear hr
    go_wp2_with fail
    go_at_call 15
    refine (remove_yes A c xs k hk h200 _ HF.out).mono ?_
    rintro e' w2 ⟨v, rfl, ho, hb2⟩
    obtain ⟨Av, cv, rfl, hcv⟩ := own_form ho
    have hfv : Hid (Flo w2 Av (without xs k)) := Reads.of_own ho
    have HF2 : Hid (Flo w2 A xs) := HF.out.below hb2
    have HB2 := Lib.hid (HB.out.trans (hb2.mono HB.out.size))
    have z0 : (0 : Int) ≤ (k : Int) := by omega
    have z1 : (k : Int) < (xs.length : Int) := by omega
    have z2 : (k : Int) + 1 ≤ (xs.length : Int) := by omega
    have hwr2 : IntKind.i32.wrap ((k : Int) + 1) = (k : Int) + 1 := by rw [IntKind.wrap_i32]; omega
    obtain ⟨A1, hr1, hs1⟩ := cut_head (P := Try.prog) 34 Try.underlying34 size_float HF2.out (k := k) (by omega) hc .i32
    obtain ⟨A2, hr2, hs2⟩ := cut_tail (P := Try.prog) 34 Try.underlying34 size_float HF2.out (k := k + 1) (by omega) hc .i32
    rw [show ((k + 1 : Nat) : Int) = (k : Int) + 1 by omega] at hs2
    rw [← floats_take] at hr1
    rw [← floats_drop] at hr2
    have H1 := Lib.hid hr1
    have H2 := Lib.hid hr2
    have hNN : Hid (∀ (i x : Nat), (without xs k)[i]? = some x → NN x) := fun i x hx => by
      obtain ⟨j, hj⟩ := without_at hx
      exact HS2.out.1 j x hj
    have hwl := without_length hk
    clear ho hb2 hr1 hr2
    have HJ : Hid (∀ W, Below w2.heap.size w2 W → Calls Try.prog 17 #[.slice A1 k c, .slice A2 (xs.length - (k + 1)) (c - (k + 1))] W (Own W (without xs k))) := fun W hW =>
      joined7_any A1 A2 k (xs.length - (k + 1)) c (c - (k + 1)) (xs.take k) (xs.drop (k + 1)) (by rw [List.length_take]; omega) (by rw [List.length_drop]) (by omega) W ((H1.out.below hW).more hW.size) ((H2.out.below hW).more hW.size)
    have HS7 : Hid (∀ (A3 : Option Addr) (c3 : Nat) (w3 : World), Below w2.heap.size w2 w3 → Flo w3 A3 (without xs k) → Calls Try.prog 16 #[.slice Av (without xs k).length cv, .slice A3 (without xs k).length c3] w3 (TrueDrew w3)) := fun A3 c3 w3 hb hf =>
      same7_any Av A3 (without xs k).length cv c3 (without xs k) rfl (by omega) hNN.out w3 (hfv.out.below hb) hf
    have HWW : Hid (TrueBelow w (.returned (.bool true)) w2) := ⟨rfl, HB2.out⟩
    clear hwl
    go_wp2
    clear H1 H2 hfv hNN HS2 HF HF2 HW Hm Hb HB HB2 hwr hcv hz hz' hc h200 hk
    go_region_held3 (fun _ => True) (exact trivial) ((first
      | (go_at_call 17; refine (HJ.out _ (by first | exact Below.refl _ _ | exact (Below.refl _ _).drew)).mono ?_; rintro e' w3 ⟨A3, c3, rfl, hf3, hb3⟩; have HF3 : Hid (Flo w3 A3 (without xs k)) := hf3; have HB3 : Hid (Below w2.heap.size w2 w3) := (by first | exact hb3 | exact below_drew hb3); clear hf3 hb3)
      | (go_at_call 16; refine (HS7.out A3 c3 _ (by first | exact HB3.out | exact HB3.out.drew) (by exact HF3.out)).mono ?_; rintro e' w4 ⟨rfl, m, rfl⟩)))
    all_goals
      go_wp2
      go_ret
      exact ⟨rfl, below_drewN (HWW.out.2.trans (HB3.out.mono HWW.out.2.size)) _⟩

theorem walkRemArg {H : Type} {enc : TypeId × Value → H} {d : DataW H} {p : List MemPlace} (a : Option Addr) (n c : Nat) {W : World} (h : DataW.Trod enc Try.prog W 0 (fun _ => true) true 34 (.slice a n c) d p) (i : Int) (hi : (Lit.int .i32 i).wf = true) (W' : World) (hW : W' = W) :
    Calls Try.prog 6 #[.slice a n c, .int .i32 i] W' fun e w' => e = .returned (.bool true) ∧ Below W'.heap.size W' w' := by
  subst hW
  obtain ⟨xs, A, c', e1, hc, hr, hm, hw⟩ := floats_arg h ⟨_, _, _, rfl⟩
  injection e1 with e11 e12 e13
  subst e11 e12 e13
  have hb := (Lit.wf_int_iff .i32 i).1 hi
  exact walkRem a c xs hc hm hw i hb.1 hb.2 W' hr
end Go.Proofs.Ytnnmdceppjmooaa
