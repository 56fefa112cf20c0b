/-
  impl.Bound. Conditions: none.
-/
import Derived.Test.YtppmdncmjcknkaaBndJ
namespace Go.Proofs.Ytppmdncmjcknkaa
open Go.RowKit
set_option linter.unusedVariables false
set_option linter.unusedSimpArgs false

def BoundP (w : World) (g : Option (List Int)) (e : Ending) (w' : World) : Prop :=
  match g with
  | some l => Nums w l e w'
  | none => e = .returned (.slice none 0 0) ∧ Below w.heap.size w w'
theorem reads_blk {w : World} {F m : Nat} {t : TypeId} {xs : List Value} (h : Blk w F t xs.toArray) (hl : xs.length = m) : Reads w w.heap.size 1 (some ⟨F, 0, none⟩) m xs := by
  refine ⟨by omega, fun _ => ⟨_, rfl, h.lt, fun j u hu => ?_⟩⟩
  have : w.cell? ⟨F, j, none⟩ = some u := by rw [h.cell j]; simpa using hu
  have e : (⟨F, 0, none⟩ : Addr).add j = ⟨F, j, none⟩ := by unfold Addr.add; split <;> simp_all
  rw [e]; exact this

set_option maxRecDepth 100000 in
set_option maxHeartbeats 1600000 in
theorem bound_any (n : Nat) (hn : n ≤ 200) (A An : Option Addr) (c cn : Nat) (P N : List ByteArray) (hP : P.length ≤ 100) (hN : N.length ≤ 100) (hA : Apart P) (w : World)
    (h : Reads w w.heap.size 1 A P.length (strs P)) (hN' : Reads w w.heap.size 1 An N.length (strs N)) :
    Calls Try.prog 8 #[.slice A P.length c, .int .i64 n, .slice An N.length cn] w (BoundP w (given P n N)) := by
  have hmk := fun (W : World) => run_make_one (P := Try.prog) 35 4 Try.underlying35 (z := .bool false) (bytes := 1) (by kernel_rfl) rfl .i64 .i64 P.length (by omega) (by omega) W
  have HR := Lib.hid h
  have HN := Lib.hid hN'
  have HA := Lib.hid hA
  clear h hN' hA
  go_enter Try.func8, Try.ntmps8
  go_wp2
  go_loopw [14] (fun i wr => ∃ (k : Nat) (cs : List Value), k ≤ P.length ∧ i = .int .i64 k ∧ Blk wr w.heap.size 4 cs.toArray ∧ cs.length = P.length ∧ (∀ j, j < k → cs[j]? = some (.bool true)) ∧ Below w.heap.size w wr) (fun i _ => P.length - (intOf i).toNat)
  case atStart =>
    refine ⟨0, List.replicate P.length (.bool false), by omega, rfl, ?_, List.length_replicate, fun j h => absurd h (by omega), (Below.refl _ _).alloc (Nat.le_refl _) _⟩
    have := Blk.new w 4 (Array.replicate P.length (.bool false))
    simpa using this
  case round =>
    obtain ⟨k, cs, hk, rfl, hb, hl, hall, hbw⟩ := hrel
    have HB := Lib.hid hb
    have HL := Lib.hid hl
    have HAll := Lib.hid hall
    have Hbw := Lib.hid hbw
    by_cases hlt : k < P.length
    · have q0 : wr.cell? ⟨w.heap.size, k, none⟩ = some (cs[k]'(by omega)) := by
        rw [hb.cell k]
        simp
      have q1 : wr.frozen? ⟨w.heap.size, k, none⟩ = false := hb.frozen k
      have z0 : (0 : Int) ≤ (k : Int) := by omega
      have z1 : (k : Int) < (P.length : Int) := by omega
      generalize cs[k]'(by omega) = u at q0
      clear hb hl hall hbw
      go_wp2
      go_roundw
      case rel =>
        refine ⟨k + 1, cs.set k (.bool true), by omega, by go_num, ?_, by rw [List.length_set]; exact HL.out, fun j hj => ?_, Hbw.out.setCell (Nat.le_refl _) _⟩
        · have := HB.out.set_ k (.bool true)
          rwa [List.setIfInBounds_toArray] at this
        · rw [List.getElem?_set]
          by_cases hkj : k = j
          · subst hkj
            rw [if_pos rfl, if_pos (by rw [HL.out]; exact hlt)]
          · rw [if_neg hkj]
            exact HAll.out j (by omega)
      case measure => simp [intOf]; omega
    · obtain rfl : P.length = k := by omega
      have hcs : cs = List.replicate P.length (.bool true) := by
        apply List.ext_getElem?
        intro j
        by_cases hj : j < P.length
        · rw [hall j hj, List.getElem?_replicate, if_pos hj]
        · rw [List.getElem?_eq_none (by omega), List.getElem?_eq_none (by rw [List.length_replicate]; omega)]
      subst hcs
      have hsz := hbw.size
      clear hb hl hall hbw
      cases hg : given P n N with
      | none =>
        have HG := Lib.hid hg
        clear hg
        go_wp2_with fail
        go_at_call 14
        refine (impl_args n hn A (some ⟨w.heap.size, 0, none⟩) An c P.length cn P N hP hN HA.out wr ((HR.out.below Hbw.out).more hsz) (reads_blk HB.out HL.out) ((HN.out.below Hbw.out).more hsz) false (by rw [HG.out]; rfl)).mono ?_
        rintro e' w1 ⟨rfl, hb1⟩
        have HB1 := Lib.hid (Hbw.out.trans (hb1.mono hsz))
        clear hb1
        go_wp2
        go_ret
        show BoundP w _ _ _
        first | (rw [HG.out]; exact ⟨rfl, HB1.out⟩) | exact ⟨rfl, HB1.out⟩
      | some l =>
        have HG := Lib.hid hg
        clear hg
        go_wp2_with fail
        go_at_call 14
        refine (impl_args n hn A (some ⟨w.heap.size, 0, none⟩) An c P.length cn P N hP hN HA.out wr ((HR.out.below Hbw.out).more hsz) (reads_blk HB.out HL.out) ((HN.out.below Hbw.out).more hsz) true (by rw [HG.out]; rfl)).mono ?_
        rintro e' w1 ⟨rfl, hb1⟩
        have HB1 := Lib.hid (Hbw.out.trans (hb1.mono hsz))
        have hs1 := HB1.out.size
        clear hb1
        go_wp2_with fail
        go_at_call 15
        refine (part_bound n hn A An c cn P N l HG.out hP hN HA.out w1 ((HR.out.below HB1.out).more hs1) ((HN.out.below HB1.out).more hs1)).mono ?_
        rintro e' w2 ⟨v, rfl, ho, hb2⟩
        have HX := Lib.hid (And.intro (own_base ho hs1) (HB1.out.trans (hb2.mono hs1)))
        clear ho hb2
        go_wp2
        go_ret
        show BoundP w _ _ _
        first | (rw [HG.out]; exact ⟨v, rfl, HX.out.1, HX.out.2⟩) | exact ⟨v, rfl, HX.out.1, HX.out.2⟩

/-! ### spec.Given -/
def GivenP (w : World) (g : Option (List Int)) (e : Ending) (w' : World) : Prop :=
  match g with
  | some l => ∃ v, e = .returned (.tuple #[v, .bool true]) ∧ w'.ownsRow w.heap.size 3 1 v l.length (ints l) ∧ Below w.heap.size w w'
  | none => e = .returned (.tuple #[.slice none 0 0, .bool false]) ∧ Below w.heap.size w w'
end Go.Proofs.Ytppmdncmjcknkaa
