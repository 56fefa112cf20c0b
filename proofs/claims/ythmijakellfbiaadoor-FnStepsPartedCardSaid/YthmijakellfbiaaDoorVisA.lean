/-
  Objects of one step, their fields' maps to be ranged over. Conditions: none.
-/
import Derived.Test.YthmijakellfbiaaDoorStpF
import Derived.Test.YthmijakellfbiaaDoorStpI
import Derived.Test.YthmijakellfbiaaDoorUniP
namespace Go.Proofs.YthmijakellfbiaaDoor
open Go.RowKit
set_option linter.unusedVariables false
set_option linter.unusedSimpArgs false

/-- What a step's fields are, and how each is seen. -/
noncomputable def hm (e : St) : ByteArray → Option Int := look (e.names.zip e.hides)
def fv (G : ByteArray → Option Int) : ByteArray → Option Value := fun s => (G s).map fldv
def SimR (w : World) (v : Value) (n : Nat) (G : ByteArray → Option Int) : Prop :=
  ∃ p b : Nat, v = .iface 93 (.pointer (some ⟨p, 0, none⟩)) ∧ Blk w p 99 #[.map none, .map (some b), .slice none 0 0, .slice none 0 0] ∧ RMap w b n (fv G)
theorem SimR.below {w w' : World} {v : Value} {n : Nat} {G : ByteArray → Option Int} (h : SimR w v n G) (hb : Below w.heap.size w w') : SimR w' v n G := by
  obtain ⟨p, b, e, h1, h2⟩ := h
  exact ⟨p, b, e, h1.later hb, h2.below hb⟩
def MadeTo (w : World) (n : Nat) (G : ByteArray → Option Int) (e : Ending) (w' : World) : Prop := ∃ p v, e = .returned (.pointer (some ⟨p, 0, none⟩)) ∧ Vob w' p v ∧ SimR w' v n G ∧ Below w.heap.size w w'
set_option maxRecDepth 100000 in
theorem mkSimR_any (b n : Nat) (G : ByteArray → Option Int) (w : World) (h : RMap w b n (fv G)) : Calls Tryd.prog 34 #[.map none, .map (some b), .slice none 0 0, .slice none 0 0] w (MadeTo w n G) := by
  have H := Lib.hid h
  have hmc := make_cache
  clear h
  go_enter Tryd.func34, Tryd.ntmps34
  go_wp2
  go_ret
  exact ⟨_, _, rfl, ⟨_, Blk.new_at (by simp)⟩, ⟨_, b, rfl, (Blk.new_at (by simp)).alloc _, ((H.out.alloc _).alloc _).alloc _⟩, (((Below.refl _ _).alloc (Nat.le_refl _) _).alloc (by simp) _).alloc (by simp; omega) _⟩
theorem zip_at {ns : List ByteArray} {hs : List Int} {k : Nat} {s : ByteArray} {n : Int} (h1 : ns[k]? = some s) (h2 : hs[k]? = some n) : (ns.zip hs).take (k + 1) = (ns.zip hs).take k ++ [(s, n)] := by
  have h : (ns.zip hs)[k]? = some (s, n) := by
    rw [List.getElem?_zip_eq_some]
    exact ⟨h1, h2⟩
  have hk := (List.getElem?_eq_some_iff.1 h).1
  rw [List.take_succ_eq_append_getElem hk, (List.getElem?_eq_some_iff.1 h).2]
set_option maxRecDepth 100000 in
set_option maxHeartbeats 1000000 in
theorem simpleR_any (e : St) (u v : Value) (w : World) (hu : Lines w u e.names) (hv : Ints w v e.hides) (hl : e.hides.length = e.names.length) (hm' : e.names.length ≤ 1000) :
    Calls Tryd.prog 28 #[.agg #[.string e.rem, u, v, .bool e.is_]] w (MadeTo w e.names.length (hm e)) := by
  obtain ⟨R, is_, ns, hs⟩ := e
  obtain ⟨A, c, rfl, hc1, hr⟩ := hu
  obtain ⟨A2, c2, rfl, hc2, hr2⟩ := hv
  simp only at hl hm' hc1 hr hc2 hr2
  have HR := Lib.hid hr
  have HR2 := Lib.hid hr2
  have hmf := make_fields
  have HZ : Hid ((ns.zip hs).length = ns.length) := by rw [List.length_zip, hl, Nat.min_self]; exact Lib.hid rfl
  clear hr hr2
  unfold hm
  simp only
  rw [hl]
  go_enter Tryd.func28, Tryd.ntmps28
  go_wp2
  go_loopw [10] (fun i wr => ∃ (k : Nat), k ≤ ns.length ∧ i = .int .i64 k ∧ Below w.heap.size w wr ∧ Blk wr w.heap.size 48 #[.string is_, .slice A ns.length c, .slice A2 ns.length c2, .bool R] ∧ RMap wr (w.heap.size + 1) k (fv (look ((ns.zip hs).take k))) ∧ w.heap.size + 2 ≤ wr.heap.size) (fun i _ => ns.length - (intOf i).toNat)
  case atStart => exact ⟨0, by omega, rfl, ((Below.refl _ _).alloc (Nat.le_refl _) _).alloc (by simp) _, (Blk.new_at rfl).alloc _, RMap.new_at (by simp) 0, by simp⟩
  case round =>
    obtain ⟨k, hk, rfl, hbw, hbx, hf, hsz⟩ := hrel
    have HB := Lib.hid hbw
    have HX := Lib.hid hbx
    have HF := Lib.hid hf
    have x1 : wr.cell? ⟨w.heap.size, 1, none⟩ = some (.slice A ns.length c) := hbx.cell 1
    have x2 : wr.cell? ⟨w.heap.size, 2, none⟩ = some (.slice A2 ns.length c2) := hbx.cell 2
    by_cases hlt : k < ns.length
    · obtain ⟨ad, s, rfl, hb, hs1, hc⟩ := HR.out.line hlt
      obtain ⟨ad2, n, rfl, hb2, hn1, hcc⟩ := HR2.out.int_ (k := k) (by omega)
      have e1 := cell_below hc hbw
      have e2 := cell_below hcc hbw
      have HN := Lib.hid (zip_at hs1 hn1)
      have hkl : (k : Int) < (hs.length : Int) := by omega
      clear hbw hbx hf hs1 hn1 hc hcc
      go_wp2_with (at_mapUpdate; refine wpList_rput _ rfl (.tmp 15) (.tmp 16) (.tmp 22) 96 rfl 9 66 Tryd.underlying96 Tryd.underlying9 (w.heap.size + 1) k _ rfl HF.out s (fldv n) rfl rfl ?_; intro w2 hf2 hg2)
      have hs2 := hg2.size
      have HB2 := Lib.hid (HB.out.grown hg2 HB.out.size (fun a ha => by injection ha; omega))
      have HX2 := Lib.hid (blk_grown hg2 HX.out (by omega))
      have HF2 : Hid (RMap w2 (w.heap.size + 1) (k + 1) (fv (look ((ns.zip hs).take (k + 1))))) := hf2.eq_ fun x => by
        unfold fv
        rw [HN.out]
        by_cases hx : s = x
        · subst hx
          rw [look_hit, if_pos rfl]
          rfl
        · rw [look_miss hx, if_neg hx]
      clear hf2 hg2
      go_wp2
      go_roundw
      case rel => exact ⟨k + 1, by omega, by go_num, HB2.out, HX2.out, HF2.out, by omega⟩
      case measure => simp [intOf]; omega
    · obtain rfl : k = ns.length := by omega
      have HF3 : Hid (RMap wr (w.heap.size + 1) ns.length (fv (look (ns.zip hs)))) := by
        have := HF.out
        rw [List.take_of_length_le (by have := HZ.out; omega)] at this
        exact this
      clear hbw hbx hf x1 x2
      go_wp2_with (go_at_call 34; refine (mkSimR_any _ ns.length _ _ HF3.out).mono ?_; rintro en w' ⟨p, v, rfl, hv, hs, hb⟩)
      go_ret
      exact ⟨_, v, rfl, hv, hs, HB.out.trans (hb.mono HB.out.size)⟩
end Go.Proofs.YthmijakellfbiaaDoor
