/-
  The object that steps make. Conditions: no step takes a field out.
-/
import Derived.Test.YthmijakellfbiaaDoorStpG
import Derived.Test.YthmijakellfbiaaDoorStpI
namespace Go.Proofs.YthmijakellfbiaaDoor
open Go.RowKit
set_option linter.unusedVariables false
set_option linter.unusedSimpArgs false

/-- What the maps of an object's parts hold. -/
def Flds (fs : List (ByteArray → Option Value)) (L : List St) : Prop := fs.length = L.length ∧ ∀ (j : Nat) (f : ByteArray → Option Value) (e : St), fs[j]? = some f → L[j]? = some e → Fld e.names e.hides e.names.length f
theorem Flds.cons {fs : List (ByteArray → Option Value)} {L : List St} {f : ByteArray → Option Value} {e : St} (h : Flds fs L) (hf : Fld e.names e.hides e.names.length f) : Flds (f :: fs) (e :: L) := by
  refine ⟨by simp [h.1], fun j g e' hg he => ?_⟩
  cases j with
  | zero =>
    simp at hg he
    subst hg he
    exact hf
  | succ j =>
    simp at hg he
    exact h.2 j g e' hg he
theorem Flds.one {f : ByteArray → Option Value} {e : St} (hf : Fld e.names e.hides e.names.length f) : Flds [f] [e] := Flds.cons (fs := []) (L := []) ⟨rfl, fun j g e' h => by simp at h⟩ hf
theorem Vob.below {w w' : World} {p : Nat} {v : Value} (h : Vob w p v) (hb : Below w.heap.size w w') : Vob w' p v := by
  obtain ⟨c, h⟩ := h
  exact ⟨c, h.later hb⟩
def KeptE (E : List St) : Prop := E.length ≤ 12 ∧ ∀ (k : Nat) (e : St), E[k]? = some e → e.is_ = false ∧ e.hides.length = e.names.length ∧ e.names.length ≤ 12
def JRel (w wr : World) (E : List St) (k : Nat) (out : Value) : Prop := ∃ p : Nat, out = .pointer (some ⟨p, 0, none⟩) ∧ (0 < k → ∃ v fs, Vob wr p v ∧ Tree wr v fs ∧ Flds fs (E.take k).reverse)
def JchTo (w : World) (E : List St) (e : Ending) (w' : World) : Prop := ∃ (p : Nat) (v : Value) (fs : List (ByteArray → Option Value)), e = .returned (.pointer (some ⟨p, 0, none⟩)) ∧ Vob w' p v ∧ Tree w' v fs ∧ Flds fs E.reverse ∧ Below w.heap.size w w'
theorem take_rev {E : List St} {k : Nat} {e : St} (he : E[k]? = some e) : (E.take (k + 1)).reverse = e :: (E.take k).reverse := by
  have hlt : k < E.length := (List.getElem?_eq_some_iff.1 he).1
  rw [List.take_succ_eq_append_getElem hlt, (List.getElem?_eq_some_iff.1 he).2]
  simp
def SimpTo (w : World) (e : St) (en : Ending) (w' : World) : Prop := ∃ (p : Nat) (v : Value) (f : ByteArray → Option Value), en = .returned (.pointer (some ⟨p, 0, none⟩)) ∧ Vob w' p v ∧ Sim w' v f ∧ Fld e.names e.hides e.names.length f ∧ Below w.heap.size w w'
theorem simple_is (e : St) (u v : Value) (w : World) (hu : Lines w u e.names) (hv : Ints w v e.hides) (hl : e.hides.length = e.names.length) (hm : e.names.length ≤ 12) :
    Calls Tryd.prog 28 #[.agg #[.string e.rem, u, v, .bool e.is_]] w (SimpTo w e) :=
  (simple_any e u v w hu hv hl (by omega)).mono fun en w' ⟨p, v, f, h1, h2, h3, h4, h5⟩ => ⟨p, v, f, h1, h2, h3, h4, h5⟩
theorem Lines.nil (w : World) : Lines w (.slice none 0 0) [] := ⟨none, 0, rfl, Nat.le_refl _, Reads.none_⟩
theorem Ints.nil (w : World) : Ints w (.slice none 0 0) [] := ⟨none, 0, rfl, Nat.le_refl _, Reads.none_⟩

set_option maxRecDepth 100000 in
set_option maxHeartbeats 2000000 in
theorem jchain_any (A : Option Addr) (c : Nat) (E : List St) (w : World) (h : Sts cellsC w A E) (hE : KeptE E) (hne : 0 < E.length) : Calls Tryd.prog 22 #[.slice A E.length c] w (JchTo w E) := by
  have hE1 := hE.1
  have HE := Lib.hid hE.2
  have HR := Lib.hid h
  have HNE := Lib.hid hne
  clear hE h hne
  go_enter Tryd.func22, Tryd.ntmps22
  go_wp2_with (go_at_call 28; refine (simple_is ⟨false, ⟨#[]⟩, [], []⟩ _ _ _ (Lines.nil _) (Ints.nil _) rfl (by simp)).mono ?_; rintro en w1 ⟨p1, v1, f1, rfl, hv1, hs1, hf1, hb1⟩)
  have HB1 := Lib.hid hb1
  clear hv1 hs1 hf1 hb1
  go_loopw [3, 11] (fun out i wr => ∃ k : Nat, k ≤ E.length ∧ i = .int .i64 k ∧ JRel w wr E k out ∧ Below w.heap.size w wr) (fun _ i _ => E.length - (intOf i).toNat)
  case atStart => exact ⟨0, by omega, rfl, ⟨p1, rfl, fun h => absurd h (by omega)⟩, HB1.out⟩
  case round =>
    obtain ⟨k, hk, rfl, ⟨p, rfl, hj⟩, hbw⟩ := hrel
    obtain ⟨wo, rfl⟩ : ∃ wo : World, wo = wr := ⟨_, rfl⟩
    have HJ := Lib.hid hj
    have HB := Lib.hid hbw
    have hsz := hbw.size
    clear hj
    by_cases hlt : k < E.length
    · obtain ⟨e, he⟩ : ∃ e, E[k]? = some e := ⟨_, List.getElem?_eq_getElem hlt⟩
      obtain ⟨ad, u, v, rfl, hb, hu, hv, hc⟩ := HR.out k e he
      obtain ⟨hi, hl, hn12⟩ := HE.out k e he
      obtain ⟨g0, g1, g2, g3⟩ := four_of hc
      have h0 := cell_below g0 hbw
      have h1 := cell_below g1 hbw
      have h2 := cell_below g2 hbw
      have h3 := cell_below g3 hbw
      have HEk := Lib.hid he
      have HL := Lib.hid hl
      rw [hi] at h3
      have hal : Below wo.heap.size wo (wo.alloc (.cells #[.string e.rem, u, v, .bool false] 48)) := (Below.refl _ _).alloc (Nat.le_refl _) _
      have HU := Lib.hid ((hu.below hbw).below hal)
      have HV := Lib.hid ((hv.below hbw).below hal)
      have HC : Hid (Calls Tryd.prog 28 #[.agg #[.string e.rem, u, v, .bool false]] (wo.alloc (.cells #[.string e.rem, u, v, .bool false] 48)) (SimpTo (wo.alloc (.cells #[.string e.rem, u, v, .bool false] 48)) e)) := by
        have := simple_is e u v _ HU.out HV.out HL.out hn12
        rw [hi] at this
        exact this
      have HAl := Lib.hid hal
      obtain ⟨A', c', rfl, -, -⟩ := hu
      obtain ⟨A2, c2, rfl, -, -⟩ := hv
      clear he hc hb g0 g1 g2 g3 hl hi hal
      by_cases hk0 : k = 0
      · have hkI : ((k : Int) == 0) = true := by simpa using hk0
        have HK0 := Lib.hid hk0
        clear hk0
        go_wp2_with fail
        go_at_call 28
        refine HC.out.mono ?_
        rintro en w2 ⟨p2, v2, f2, rfl, hv2, hs2, hf2, hb2⟩
        have HN : Hid (JRel w w2 E (k + 1) (.pointer (some ⟨p2, 0, none⟩))) := ⟨p2, rfl, fun _ => ⟨v2, [f2], hv2, hs2, by rw [take_rev HEk.out, HK0.out]; exact Flds.one hf2⟩⟩
        have HB2 := Lib.hid (HB.out.trans ((HAl.out.trans (hb2.mono (by simp))).mono hsz))
        clear hv2 hs2 hf2 hb2
        go_wp2
        go_roundw
        case rel => exact ⟨k + 1, by omega, by go_num, HN.out, HB2.out⟩
        case measure => simp [intOf]; omega
      · obtain ⟨v0, fs, hv0, ht0, hf0⟩ := HJ.out (by omega)
        have hkI : ((k : Int) == 0) = false := by simpa using hk0
        have hfl : fs.length ≤ 1000 := by have := hf0.1; simp at this; omega
        have HV0 := Lib.hid hv0
        have HT0 := Lib.hid ht0
        have HF0 := Lib.hid hf0
        clear hv0 ht0 hf0 hk0
        go_wp2_with fail
        go_at_call 28
        refine HC.out.mono ?_
        rintro en w2 ⟨p2, v2, f2, rfl, hv2, hs2, hf2, hb2⟩
        have HB2 := Lib.hid (HAl.out.trans (hb2.mono (by simp)))
        have HV2 := Lib.hid hv2
        have HS2 := Lib.hid hs2
        have HF2 := Lib.hid hf2
        have hs2 := HB2.out.size
        clear hv2 hf2 hb2
        go_wp2_with (go_at_call 30; refine (mkExt_any p p2 v0 v2 f2 fs hfl w2 (HV0.out.below HB2.out) HV2.out (HT0.out.below HB2.out) HS2.out).mono ?_; rintro en w3 ⟨p3, v3, rfl, hv3, ht3, hb3⟩)
        have HN : Hid (JRel w w3 E (k + 1) (.pointer (some ⟨p3, 0, none⟩))) := ⟨p3, rfl, fun _ => ⟨v3, f2 :: fs, hv3, ht3, by rw [take_rev HEk.out]; exact HF0.out.cons HF2.out⟩⟩
        have HB3 := Lib.hid (HB.out.trans ((HB2.out.trans (hb3.mono hs2)).mono hsz))
        clear hv3 ht3 hb3
        go_wp2
        go_roundw
        case rel => exact ⟨k + 1, by omega, by go_num, HN.out, HB3.out⟩
        case measure => simp [intOf]; omega
    · obtain rfl : k = E.length := by omega
      obtain ⟨v0, fs, hv0, ht0, hf0⟩ := HJ.out HNE.out
      rw [List.take_length] at hf0
      have HV0 := Lib.hid hv0
      have HT0 := Lib.hid ht0
      have HF0 := Lib.hid hf0
      clear hv0 ht0 hf0
      go_wp2
      go_ret
      exact ⟨p, v0, fs, rfl, HV0.out, HT0.out, HF0.out, HB.out⟩
end Go.Proofs.YthmijakellfbiaaDoor
