/-
  The object that steps make, and how its fields are seen. Conditions: none.
-/
import Derived.Test.YthmijakellfbiaaDoorVisE
import Derived.Deep.RegionLaw
namespace Go.Proofs.YthmijakellfbiaaDoor
open Go.RowKit
set_option linter.unusedVariables false
set_option linter.unusedSimpArgs false

/-- One step more. -/
noncomputable def visStep (V : ByteArray → Option Int) (e : St) : ByteArray → Option Int := if e.is_ then (fun s => @ite _ (e.rem = s) (Classical.propDecidable _) none (V s)) else comb V (hm e)
noncomputable def visF (E : List St) : ByteArray → Option Int := E.foldl visStep fun _ => none
theorem visF_snoc (E : List St) (e : St) : visF (E ++ [e]) = visStep (visF E) e := by unfold visF; rw [List.foldl_append]; rfl
theorem take_snoc' {E : List St} {k : Nat} {e : St} (he : E[k]? = some e) : E.take (k + 1) = E.take k ++ [e] := by
  have hk := (List.getElem?_eq_some_iff.1 he).1
  rw [List.take_succ_eq_append_getElem hk, (List.getElem?_eq_some_iff.1 he).2]
theorem comb_none (G : ByteArray → Option Int) (s : ByteArray) : comb (fun _ => none) G s = G s := by
  unfold comb
  cases G s with
  | none => rfl
  | some h => by_cases e : h = 1 <;> simp [e]
theorem comb_eq {A B : ByteArray → Option Int} (h : ∀ s, A s = B s) (G : ByteArray → Option Int) (s : ByteArray) : comb A G s = comb B G s := by
  unfold comb
  rw [h s]
theorem blk_ne_map {w : World} {g b n : Nat} {t : TypeId} {cs : Array Value} {f : ByteArray → Option Value} (h : Blk w g t cs) (hm : RMap w b n f) : g ≠ b := by
  rintro rfl
  obtain ⟨_, _, _, h1, _⟩ := hm
  unfold Blk at h
  rw [h1] at h
  cases h
def KindE (E : List St) : Prop := E.length ≤ 12 ∧ ∀ (k : Nat) (e : St), E[k]? = some e → e.hides.length = e.names.length ∧ e.names.length ≤ 12
def CRel (w wr : World) (E : List St) (k : Nat) (out : Value) : Prop := ∃ (p : Nat) (v : Value) (o : OT), out = .pointer (some ⟨p, 0, none⟩) ∧ Vob wr p v ∧ Obt wr o v ∧ (∀ s, vis o s = visF (E.take k) s) ∧ sz o ≤ k + 1 ∧ cnt o ≤ 12 * k
def VchTo (w : World) (E : List St) (e : Ending) (w' : World) : Prop := ∃ (p : Nat) (v : Value) (o : OT), e = .returned (.pointer (some ⟨p, 0, none⟩)) ∧ Vob w' p v ∧ Obt w' o v ∧ (∀ s, vis o s = visF E s) ∧ cnt o ≤ 144 ∧ Below w.heap.size w w'
theorem Vob.below {w w' : World} {p : Nat} {v : Value} (h : Vob w p v) (hb : Below w.heap.size w w') : Vob w' p v := by
  obtain ⟨c, h⟩ := h
  exact ⟨c, h.later hb⟩
theorem Lines.nil (w : World) : Lines w (.slice none 0 0) [] := ⟨none, 0, rfl, Nat.le_refl _, Reads.none_⟩
theorem Ints.nil (w : World) : Ints w (.slice none 0 0) [] := ⟨none, 0, rfl, Nat.le_refl _, Reads.none_⟩
set_option maxRecDepth 100000 in
set_option maxHeartbeats 4000000 in
theorem vchain_any (A : Option Addr) (c : Nat) (E : List St) (w : World) (h : Sts cellsC w A E) (hE : KindE E) : Calls Tryd.prog 22 #[.slice A E.length c] w (VchTo w E) := by
  have hE1 := hE.1
  have HE := Lib.hid hE.2
  have HR := Lib.hid h
  clear hE h
  go_enter Tryd.func22, Tryd.ntmps22
  go_wp2_with (go_at_call 28; refine (simpleR_any ⟨false, ⟨#[]⟩, [], []⟩ _ _ _ (Lines.nil _) (Ints.nil _) rfl (by simp)).mono ?_; rintro en w1 ⟨p1, v1, rfl, hv1, hs1, hb1⟩)
  have HB1 := Lib.hid hb1
  have HC1 : Hid (CRel w w1 E 0 (.pointer (some ⟨p1, 0, none⟩))) := ⟨p1, v1, .simp 0 (hm ⟨false, ⟨#[]⟩, [], []⟩), rfl, hv1, hs1, fun s => rfl, Nat.le_refl _, Nat.le_refl _⟩
  clear hv1 hs1 hb1
  go_loopw [3, 11] (fun out i wr => ∃ k : Nat, k ≤ E.length ∧ i = .int .i64 k ∧ CRel w wr E k out ∧ Below w.heap.size w wr) (fun _ i _ => E.length - (intOf i).toNat)
  case atStart => exact ⟨0, by omega, rfl, HC1.out, HB1.out⟩
  case round =>
    obtain ⟨k, hk, rfl, ⟨p, v, o, rfl, hv, ho, hvis, hsz, hcn⟩, hbw⟩ := hrel
    obtain ⟨wo, rfl⟩ : ∃ wo : World, wo = wr := ⟨_, rfl⟩
    have HV := Lib.hid hv
    have HO := Lib.hid ho
    have HVis := Lib.hid hvis
    have HSz := Lib.hid hsz
    have HCn := Lib.hid hcn
    have HB := Lib.hid hbw
    have hsw := hbw.size
    clear hv ho hvis hsz hcn
    by_cases hlt : k < E.length
    · obtain ⟨e, he⟩ : ∃ e, E[k]? = some e := ⟨_, List.getElem?_eq_getElem hlt⟩
      obtain ⟨ad, u, u2, rfl, hb, hu, hu2, hc⟩ := HR.out k e he
      obtain ⟨hl, hn12⟩ := HE.out k e he
      obtain ⟨g0, g1, g2, g3⟩ := four_of hc
      have h0 := cell_below g0 hbw
      have h1 := cell_below g1 hbw
      have h2 := cell_below g2 hbw
      have h3 := cell_below g3 hbw
      have HEk := Lib.hid (take_snoc' he)
      have HL := Lib.hid hl
      have hal : Below wo.heap.size wo (wo.alloc (.cells #[.string e.rem, u, u2, .bool e.is_] 48)) := (Below.refl _ _).alloc (Nat.le_refl _) _
      have HC : Hid (Calls Tryd.prog 28 #[.agg #[.string e.rem, u, u2, .bool e.is_]] (wo.alloc (.cells #[.string e.rem, u, u2, .bool e.is_] 48)) (MadeTo (wo.alloc (.cells #[.string e.rem, u, u2, .bool e.is_] 48)) e.names.length (hm e))) := Lib.hid (simpleR_any e u u2 _ ((hu.below hbw).below hal) ((hu2.below hbw).below hal) hl (by omega))
      have HAl := Lib.hid hal
      obtain ⟨A', c', rfl, -, -⟩ := hu
      obtain ⟨A2, c2, rfl, -, -⟩ := hu2
      clear he hc hb g0 g1 g2 g3 hl hal
      cases hi : e.is_
      · rw [hi] at h3 HC HAl
        have HI := Lib.hid hi
        clear hi
        by_cases hk0 : k = 0
        · have hkI : ((k : Int) == 0) = true := by simpa using hk0
          have HK0 := Lib.hid hk0
          clear hk0
          go_wp2_with fail
          go_at_call 28
          refine HC.out.mono ?_
          rintro en w2 ⟨p2, v2, rfl, hv2, hs2, hb2⟩
          have HN : Hid (CRel w w2 E (k + 1) (.pointer (some ⟨p2, 0, none⟩))) := ⟨p2, v2, .simp e.names.length (hm e), rfl, hv2, hs2, fun s => by
            rw [HEk.out, HK0.out, List.take_zero, visF_snoc]
            unfold visStep
            rw [HI.out]
            exact (comb_none (hm e) s).symm, by show 1 ≤ k + 1 + 1; omega, by show e.names.length ≤ 12 * (k + 1); omega⟩
          have HB2 := Lib.hid (HB.out.trans ((HAl.out.trans (hb2.mono (by simp))).mono hsw))
          clear hv2 hs2 hb2
          go_wp2
          go_roundw
          case rel => exact ⟨k + 1, by omega, by go_num, HN.out, HB2.out⟩
          case measure => simp [intOf]; omega
        · have hkI : ((k : Int) == 0) = false := by simpa using hk0
          clear hk0
          go_wp2_with fail
          go_at_call 28
          refine HC.out.mono ?_
          rintro en w2 ⟨p2, v2, rfl, hv2, hs2, hb2⟩
          have HB2 := Lib.hid (HAl.out.trans (hb2.mono (by simp)))
          have HV2 := Lib.hid hv2
          have HS2 := Lib.hid hs2
          have hs2' := HB2.out.size
          clear hv2 hs2 hb2
          go_wp2_with fail
          go_at_call 30
          refine (mkV_any p p2 e.names.length v v2 o (hm e) w2 (by have := HSz.out; omega) (HV.out.below HB2.out) HV2.out (HO.out.below HB2.out) HS2.out).mono ?_
          rintro en w3 ⟨p3, v3, rfl, hv3, ht3, hb3⟩
          have HN : Hid (CRel w w3 E (k + 1) (.pointer (some ⟨p3, 0, none⟩))) := ⟨p3, v3, .ext o e.names.length (hm e), rfl, hv3, ht3, fun s => by
            rw [HEk.out, visF_snoc]
            unfold visStep
            rw [HI.out]
            exact comb_eq HVis.out (hm e) s, by show sz o + 1 ≤ k + 1 + 1; have := HSz.out; omega, by show cnt o + e.names.length ≤ 12 * (k + 1); have := HCn.out; omega⟩
          have HB3 := Lib.hid (HB.out.trans ((HB2.out.trans (hb3.mono hs2')).mono hsw))
          clear hv3 ht3 hb3
          go_wp2
          go_roundw
          case rel => exact ⟨k + 1, by omega, by go_num, HN.out, HB3.out⟩
          case measure => simp [intOf]; omega
      · rw [hi] at h3 HC HAl
        have HI := Lib.hid hi
        clear hi HC
        go_wp2_with fail
        go_at_call 29
        refine (mkRes_any p v o _ (HV.out.below HAl.out) (HO.out.below HAl.out)).mono ?_
        rintro en w2 ⟨r, q, b, v2, rfl, hv2, hq2, ho2, hb2, hm2, hB2⟩
        have bX : Blk w2 wo.heap.size 48 #[.string e.rem, .slice A' e.names.length c', .slice A2 e.hides.length c2, .bool true] := (Blk.new_at rfl).later hB2
        obtain ⟨cv2, bV⟩ := hv2
        have r2 : w2.cell? ⟨r, 2, none⟩ = some (.iface 88 (.pointer (some ⟨q, 0, none⟩))) := bV.cell 2
        have q1 : w2.cell? ⟨q, 1, none⟩ = some (.map (some b)) := hq2.cell 1
        have s0 : w2.cell? ⟨wo.heap.size, 0, none⟩ = some (.string e.rem) := bX.cell 0
        have hta : ∀ w, (Instr.typeAssert (.iface 88 (.pointer (some ⟨q, 0, none⟩))) 58 88 false).run Tryd.prog w = .ok (.pointer (some ⟨q, 0, none⟩)) w := fun _ => by kernel_rfl
        have n1 := blk_ne_map bV hm2
        have n2 := blk_ne_map hq2 hm2
        have n3 := blk_ne_map bX hm2
        have l1 := bV.lt
        have l2 := hq2.lt
        have l3 := bX.lt
        have HO2 := Lib.hid ho2
        have HM2 := Lib.hid hm2
        have HBV := Lib.hid bV
        have HBQ := Lib.hid hq2
        have hs2 := hB2.size
        have HB2 := Lib.hid (HAl.out.trans (hB2.mono (by simp)))
        have HOLa := Lib.hid hb2
        have HBa := Lib.hid hB2
        have HOL := Lib.hid (show wo.heap.size ≤ b by simp at hb2; omega)
        clear ho2 hm2 bV hq2 bX hB2 hb2
        go_wp2_with fail
        go_region_held3 (fun w' => w'.cell? ⟨r, 2, none⟩ = some (.iface 88 (.pointer (some ⟨q, 0, none⟩))) ∧ w'.cell? ⟨q, 1, none⟩ = some (.map (some b)) ∧ w'.cell? ⟨wo.heap.size, 0, none⟩ = some (.string e.rem))
          (first | exact ⟨r2, q1, s0⟩ | exact ⟨(hg3.cell_far ⟨r, 2, none⟩ l1 (fun e => n1 (by injection e))).trans r2, (hg3.cell_far ⟨q, 1, none⟩ l2 (fun e => n2 (by injection e))).trans q1, (hg3.cell_far ⟨wo.heap.size, 0, none⟩ l3 (fun e => n3 (by injection e))).trans s0⟩)
          ((refine step_rdel (by rfl) (.tmp 32) (.tmp 34) 85 9 (by rfl) 49 Tryd.underlying85 Tryd.underlying9 (by rfl) HM2.out e.rem (by rfl) ?_; intro w3 hm3 hg3))
        have hb3a : Below (wo.alloc (.cells #[.string e.rem, .slice A' e.names.length c', .slice A2 e.hides.length c2, .bool true] 48)).heap.size (wo.alloc (.cells #[.string e.rem, .slice A' e.names.length c', .slice A2 e.hides.length c2, .bool true] 48)) w3 := (HBa.out.drew).grown hg3 hs2 (fun a ha => by injection ha with ha; subst ha; exact HOLa.out)
        have hb3 : Below wo.heap.size wo w3 := ((HB2.out).drew).grown hg3 (by have := HB2.out.size; simpa using this) (fun a ha => by injection ha with ha; subst ha; exact HOL.out)
        have HM3 : Hid (RMap w3 b (cnt o) (intv (fun s => @ite _ (e.rem = s) (Classical.propDecidable _) none (vis o s)))) := Lib.hid (hm3.eq_ fun s => by
          unfold intv
          by_cases h : e.rem = s
          · simp [h]
          · simp [h])
        have HBV3 := Lib.hid (HBV.out.drew.grown hg3 (fun e => n1 (by injection e)))
        have HBQ3 := Lib.hid (HBQ.out.drew.grown hg3 (fun e => n2 (by injection e)))
        have HN : Hid (CRel w w3 E (k + 1) (.pointer (some ⟨r, 0, none⟩))) := ⟨r, _, .res o (cnt o) (fun s => @ite _ (e.rem = s) (Classical.propDecidable _) none (vis o s)), rfl, ⟨_, HBV3.out⟩, ⟨q, b, v2, rfl, HBQ3.out, HO2.out.below hb3a, HM3.out⟩, fun s => by
          rw [HEk.out, visF_snoc]
          unfold visStep
          rw [HI.out]
          show @ite _ (e.rem = s) (Classical.propDecidable _) none (vis o s) = @ite _ (e.rem = s) (Classical.propDecidable _) none (visF (E.take k) s)
          rw [HVis.out s], by show sz o + 1 ≤ k + 1 + 1; have := HSz.out; omega, by show cnt o ≤ 12 * (k + 1); have := HCn.out; omega⟩
        have HB3 := Lib.hid (HB.out.trans (hb3.mono hsw))
        clear hm3 hg3 hb3
        go_wp2
        go_roundw
        case rel => exact ⟨k + 1, by omega, by go_num, HN.out, HB3.out⟩
        case measure => simp [intOf]; omega
    · obtain rfl : k = E.length := by omega
      rw [List.take_length] at HVis
      go_wp2
      go_ret
      exact ⟨p, v, o, rfl, HV.out, HO.out, HVis.out, by have := HCn.out; omega, HB.out⟩
end Go.Proofs.YthmijakellfbiaaDoor
