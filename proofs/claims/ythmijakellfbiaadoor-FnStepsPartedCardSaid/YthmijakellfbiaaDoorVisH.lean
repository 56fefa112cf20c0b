/-
  impl.Fields without hidden ones. Conditions: none.
-/
import Derived.Test.YthmijakellfbiaaDoorVisG
namespace Go.Proofs.YthmijakellfbiaaDoor
open Go.RowKit
set_option linter.unusedVariables false
set_option linter.unusedSimpArgs false

theorem wh_any (w : World) : Calls Tryd.prog 25 #[.bool false] w fun e w' => e = .returned (.int .i64 1) ∧ w = w' := by
  go_enter Tryd.func25, Tryd.ntmps25
  go_wp2
  go_ret
  exact ⟨rfl, rfl⟩
theorem FewE.kind {E : List St} (h : FewE E) : KindE (E.map cv) := by
  refine ⟨by simpa using h.1, fun k e he => ?_⟩
  rw [List.getElem?_map] at he
  cases h0 : E[k]? with
  | none => rw [h0] at he; cases he
  | some e0 =>
    rw [h0] at he
    simp at he
    subst he
    obtain ⟨h1, h2, _⟩ := h.2 k e0 h0
    exact ⟨by simpa [cv] using h1, h2⟩
set_option maxRecDepth 100000 in
theorem part_any (A : Option Addr) (c : Nat) (E : List St) (w : World) (h : Sts cellsC w A E) (hE : KindE E) : Calls Tryd.prog 18 #[.slice A E.length c, .bool false] w (FlTo w (visF E)) := by
  have HE := Lib.hid hE
  have HR := Lib.hid h
  clear hE h
  go_enter Tryd.func18, Tryd.ntmps18
  go_wp2_with fail
  go_at_call 22
  refine (vchain_any A c E w HR.out HE.out).mono ?_
  rintro e w1 ⟨p, v, o, rfl, hv, ho, hvis, hcn, hb⟩
  have HV := Lib.hid hv
  have HO := Lib.hid ho
  have HVis := Lib.hid hvis
  have HCn := Lib.hid hcn
  have HB := Lib.hid hb
  have hs := hb.size
  clear hv ho hvis hcn hb
  go_wp2_with (go_at_call 25; refine (wh_any _).mono ?_; rintro e w' ⟨rfl, rfl⟩)
  go_at_call 24
  refine (fields_any p v o w1 HV.out HO.out HCn.out).mono ?_
  rintro e w2 ⟨u, C, rfl, h1, h2, h3, h4, h5⟩
  have H1 := Lib.hid h1
  have H2 : Hid (∀ s, s ∈ C ↔ Shown (visF E) s) := fun s => by
    rw [h2 s]
    unfold Shown
    rw [HVis.out s]
  have H4 := Lib.hid (own_mono h4 hs)
  have H5 := Lib.hid (HB.out.trans (h5.mono hs))
  clear h1 h2 h4 h5
  go_wp2
  go_ret
  exact ⟨u, C, rfl, H1.out, H2.out, h3, H4.out, H5.out⟩
theorem lines_of_own {w : World} {base : Nat} {t : TypeId} {v : Value} {l : List ByteArray} (h : w.ownsRow base t 1 v l.length (strs l)) : Lines w v l := by
  obtain ⟨A, c, rfl, hc⟩ := own_form h
  exact ⟨A, c, rfl, hc, Reads.of_own h⟩
def FieldsTo (w : World) (E : List St) (e : Ending) (w' : World) : Prop := ∃ u C, e = .returned (.tuple #[u, .bool true]) ∧ C.Nodup ∧ (∀ s, s ∈ C ↔ Shown (visF (E.map cv)) s) ∧ C.length ≤ 144 ∧ Lines w' u (srt C) ∧ Below w.heap.size w w'
set_option maxRecDepth 100000 in
theorem ifields_any (A : Option Addr) (c : Nat) (E : List St) (w : World) (h : Sts cellsS w A E) (hE : FewE E) : Calls Tryd.prog 12 #[.slice A E.length c, .bool false] w (FieldsTo w E) := by
  have HE := Lib.hid hE
  have HR := Lib.hid h
  have HL : Hid ((E.map cv).length = E.length) := Lib.hid (by simp)
  clear hE h
  go_enter Tryd.func12, Tryd.ntmps12
  go_wp2_with fail
  go_at_call 15
  refine (ichain_any A c E w HR.out HE.out).mono ?_
  rintro e w1 ⟨A1, c1, rfl, hs, hb⟩
  have HS1 := Lib.hid hs
  have HB1 := Lib.hid hb
  have hs1 := hb.size
  clear hs hb
  go_wp2_with fail
  go_at_call 18
  have hc := part_any A1 c1 (E.map cv) w1 HS1.out HE.out.kind
  rw [HL.out] at hc
  refine hc.mono ?_
  rintro e w2 ⟨u, C, rfl, h1, h2, h3, h4, h5⟩
  have H1 := Lib.hid h1
  have H2 := Lib.hid h2
  have H4 := Lib.hid h4
  have H5 := Lib.hid (HB1.out.trans (h5.mono hs1))
  have hs2 := H5.out.size
  have hOl := Lib.hid h4.lt
  clear h1 h2 h4 h5 hc
  go_wp2_with fail
  go_at_call 19
  refine (sort_own H4.out (by omega)).mono ?_
  rintro e w3 ⟨rfl, ho, hg⟩
  have HLn : Hid (Lines w3 u (srt C)) := Lib.hid (lines_of_own (by rw [srt_len]; exact ho))
  have HB3 := Lib.hid (H5.out.grown hg hs2 (fun a ha => Nat.le_trans hs1 (hOl.out a ha).1))
  clear ho hg
  go_wp2
  go_ret2
  exact ⟨u, C, rfl, H1.out, H2.out, h3, HLn.out, HB3.out⟩
end Go.Proofs.YthmijakellfbiaaDoor
