/-
  An object of one step. Conditions: none.
-/
import Derived.Test.YthmijakellfbiaaDoorStpD
namespace Go.Proofs.YthmijakellfbiaaDoor
open Go.RowKit
set_option linter.unusedVariables false
set_option linter.unusedSimpArgs false

def fldv (h : Int) : Value := .agg #[.nilIface, .int .i64 h]
/-- What the first fields of a step make. -/
def Fld (ns : List ByteArray) (hs : List Int) (k : Nat) (f : ByteArray → Option Value) : Prop :=
  ∀ s, (f s = none → ∀ j, j < k → ns[j]? ≠ some s) ∧ (∀ x, f s = some x → ∃ j h, j < k ∧ ns[j]? = some s ∧ hs[j]? = some h ∧ x = fldv h)
theorem Fld.nil (ns : List ByteArray) (hs : List Int) : Fld ns hs 0 (fun _ => none) := fun s => ⟨fun _ j hj => absurd hj (by omega), fun x h => by cases h⟩
theorem Fld.put {ns : List ByteArray} {hs : List Int} {k : Nat} {f : ByteArray → Option Value} (h : Fld ns hs k f) {t : ByteArray} {n : Int} (ht : ns[k]? = some t) (hn : hs[k]? = some n) : Fld ns hs (k + 1) (fun x => if t = x then some (fldv n) else f x) := by
  intro s
  by_cases e : t = s
  · subst e
    refine ⟨fun hh => by simp at hh, fun x hx => ?_⟩
    simp at hx
    exact ⟨k, n, by omega, ht, hn, hx.symm⟩
  · simp only [if_neg e]
    refine ⟨fun hh j hj => ?_, fun x hx => ?_⟩
    · by_cases hjk : j = k
      · subst hjk
        rw [ht]
        intro e2
        injection e2 with e2
        exact e e2
      · exact (h s).1 hh j (by omega)
    · obtain ⟨j, h', hj, a, b, c⟩ := (h s).2 x hx
      exact ⟨j, h', by omega, a, b, c⟩
theorem Fld.has {ns : List ByteArray} {hs : List Int} {f : ByteArray → Option Value} (h : Fld ns hs ns.length f) (s : ByteArray) : (f s).isSome = true ↔ s ∈ ns := by
  constructor
  · intro hh
    obtain ⟨x, hx⟩ := Option.isSome_iff_exists.1 hh
    obtain ⟨j, _, _, a, _, _⟩ := (h s).2 x hx
    exact List.mem_of_getElem? a
  · intro hm
    cases hf : f s with
    | some x => rfl
    | none =>
      obtain ⟨j, hj, e⟩ := List.mem_iff_getElem.1 hm
      exact absurd (by rw [← e]; exact List.getElem?_eq_getElem hj) ((h s).1 hf j hj)
def aggC (e : St) (u v : Value) : Value := .agg #[.string e.rem, u, v, .bool e.is_]
theorem blk_grown {w w' : World} {g m : Nat} {t : TypeId} {cs : Array Value} (hg : w.grownBy w' (some m)) (h : Blk w g t cs) (hne : g ≠ m) : Blk w' g t cs := h.grown hg (by intro e; injection e with e; exact hne e)
theorem FMap.new_at {w : World} {n : Nat} (h : w.heap.size = n) : FMap (w.alloc (.map #[] 0)) n (fun _ => none) := by subst h; exact FMap.new w
set_option maxRecDepth 100000 in
set_option maxHeartbeats 1000000 in
theorem simple_any (e : St) (u v : Value) (w : World) (hu : Lines w u e.names) (hv : Ints w v e.hides) (hl : e.hides.length = e.names.length) (hm : e.names.length ≤ 1000) :
    Calls Tryd.prog 28 #[aggC e u v] w fun en w' => ∃ p v f, en = .returned (.pointer (some ⟨p, 0, none⟩)) ∧ Vob w' p v ∧ Sim w' v f ∧ Fld e.names e.hides e.names.length f ∧ Below w.heap.size w w' := by
  obtain ⟨R, is_, ns, hs⟩ := e
  obtain ⟨A, c, rfl, hc1, hr⟩ := hu
  obtain ⟨A2, c2, rfl, hc2, hr2⟩ := hv
  simp only at hl hm hc1 hr hc2 hr2
  have HR := Lib.hid hr
  have HR2 := Lib.hid hr2
  have hmf := make_fields
  clear hr hr2
  unfold aggC
  simp only
  rw [hl]
  go_enter Tryd.func28, Tryd.ntmps28
  go_wp2
  go_loopw [10] (fun i wr => ∃ (k : Nat) (f : ByteArray → Option Value), k ≤ ns.length ∧ i = .int .i64 k ∧ Below w.heap.size w wr ∧ Blk wr w.heap.size 48 #[.string is_, .slice A ns.length c, .slice A2 ns.length c2, .bool R] ∧ FMap wr (w.heap.size + 1) f ∧ Fld ns hs k f ∧ w.heap.size + 2 ≤ wr.heap.size) (fun i _ => ns.length - (intOf i).toNat)
  case atStart => exact ⟨0, _, by omega, rfl, ((Below.refl _ _).alloc (Nat.le_refl _) _).alloc (by simp) _, (Blk.new_at rfl).alloc _, FMap.new_at (by simp), Fld.nil _ _, by simp⟩
  case round =>
    obtain ⟨k, f, hk, rfl, hbw, hbx, hf, hfl, hsz⟩ := hrel
    have HB := Lib.hid hbw
    have HX := Lib.hid hbx
    have HF := Lib.hid hf
    have HFl := Lib.hid hfl
    have x1 : wr.cell? ⟨w.heap.size, 1, none⟩ = some (.slice A ns.length c) := hbx.cell 1
    have x2 : wr.cell? ⟨w.heap.size, 2, none⟩ = some (.slice A2 ns.length c2) := hbx.cell 2
    by_cases hlt : k < ns.length
    · obtain ⟨ad, s, rfl, hb, hs1, hc⟩ := HR.out.line hlt
      obtain ⟨ad2, n, rfl, hb2, hn1, hcc⟩ := HR2.out.int_ (k := k) (by omega)
      have e1 := cell_below hc hbw
      have e2 := cell_below hcc hbw
      have HN := Lib.hid (HFl.out.put hs1 hn1)
      have hkl : (k : Int) < (hs.length : Int) := by omega
      clear hbw hbx hf hfl hs1 hn1 hc hcc
      go_wp2_with (at_mapUpdate; refine wpList_put _ rfl (.tmp 15) (.tmp 16) (.tmp 22) 96 rfl 9 66 Tryd.underlying96 Tryd.underlying9 (w.heap.size + 1) f rfl HF.out s (fldv n) rfl rfl ?_; intro w2 hf2 hg2)
      have hs2 := hg2.size
      have HB2 := Lib.hid (HB.out.grown hg2 HB.out.size (fun a ha => by injection ha; omega))
      have HX2 := Lib.hid (blk_grown hg2 HX.out (by omega))
      have HF2 := Lib.hid hf2
      clear hf2 hg2
      go_wp2
      go_roundw
      case rel => exact ⟨k + 1, _, by omega, by go_num, HB2.out, HX2.out, HF2.out, HN.out, by omega⟩
      case measure => simp [intOf]; omega
    · obtain rfl : k = ns.length := by omega
      clear hbw hbx hf hfl x1 x2
      go_wp2_with (go_at_call 34; refine (mkSim_any _ f _ HF.out).mono ?_; rintro en w' ⟨p, v, rfl, hv, hs, hb⟩)
      go_ret
      exact ⟨_, v, f, rfl, hv, hs, HFl.out, HB.out.trans (hb.mono HB.out.size)⟩
end Go.Proofs.YthmijakellfbiaaDoor
