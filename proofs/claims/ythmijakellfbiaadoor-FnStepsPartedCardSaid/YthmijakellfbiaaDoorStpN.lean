/-
  Few steps; steps put behind steps. Conditions: the library's two tables lie there.
-/
import Derived.Test.YthmijakellfbiaaDoorStpH
import Derived.Deep.AppendLies
import Derived.Deep.RegionHeld3
namespace Go.Proofs.YthmijakellfbiaaDoor
open Go.RowKit
set_option linter.unusedVariables false
set_option linter.unusedSimpArgs false

def FewTo (w : World) (E : List St) (e : Ending) (w' : World) : Prop := ∃ b, e = .returned (.bool b) ∧ (b = true → FewE E) ∧ Below w.heap.size w w'
set_option maxRecDepth 100000 in
set_option maxHeartbeats 1000000 in
theorem few_any (A : Option Addr) (c : Nat) (E : List St) (w : World) (h : Sts cellsS w A E) (hm : E.length ≤ 4611686018427387904) (hZ : Sizes E) (hT : Tabs w) : Calls Tryd.prog 8 #[.slice A E.length c] w (FewTo w E) := by
  have HR := Lib.hid h
  have HZ := Lib.hid hZ
  have HT := Lib.hid hT
  clear h hZ hT
  go_enter Tryd.func8, Tryd.ntmps8
  go_wp2
  go_loopw [3] (fun i wr => ∃ k : Nat, k ≤ E.length ∧ i = .int .i64 k ∧ (∀ (j : Nat) (e : St), j < k → E[j]? = some e → e.names.length ≤ 12) ∧ wr = w) (fun i _ => E.length - (intOf i).toNat)
  case atStart => exact ⟨0, by omega, rfl, fun j e h => absurd h (by omega), rfl⟩
  case round =>
    obtain ⟨k, hk, rfl, hall, rfl⟩ := hrel
    have HA := Lib.hid hall
    clear hall
    by_cases hlt : k < E.length
    · obtain ⟨e, he⟩ : ∃ e, E[k]? = some e := ⟨_, List.getElem?_eq_getElem hlt⟩
      obtain ⟨ad, u, v, rfl, hb, hu, hv, hc⟩ := HR.out k e he
      obtain ⟨h0, h1, h2, h3⟩ := four_of hc
      have He := Lib.hid he
      obtain ⟨A', c', rfl, -, -⟩ := hu
      clear hv hc he h0 h1 h3
      by_cases hn : e.names.length ≤ 12
      · have hd : decide ((12 : Int) < (e.names.length : Int)) = false := decide_eq_false (by omega)
        go_wp2
        go_roundw
        case rel =>
          refine ⟨k + 1, by omega, by go_num, fun j e' hj h' => ?_, by first | rfl | trivial⟩
          by_cases hjk : j = k
          · subst hjk
            rw [He.out] at h'
            injection h' with h'
            subst h'
            exact hn
          · exact HA.out j e' (by omega) h'
        case measure => simp [intOf]; omega
      · have hd : decide ((12 : Int) < (e.names.length : Int)) = true := decide_eq_true (by omega)
        go_wp2
        go_ret
        exact ⟨false, rfl, (fun h => by cases h), Below.refl _ _⟩
    · obtain rfl : k = E.length := by omega
      by_cases h12 : E.length ≤ 12
      · go_wp2_with fail
        go_at_call 14
        refine (stepsok_any A c E _ HR.out h12 HZ.out (fun j e h => HA.out j e (by have := (List.getElem?_eq_some_iff.1 h).1; omega) h) HT.out).mono ?_
        rintro e w' ⟨b, rfl, hb, hB⟩
        have HN : Hid (b = true → FewE E) := fun h => ⟨h12, fun j e he => ⟨(hb h j e he).1, HA.out j e (by have := (List.getElem?_eq_some_iff.1 he).1; omega) he, (hb h j e he).2⟩⟩
        have HB := Lib.hid hB
        clear hb hB
        go_wp2
        go_ret
        exact ⟨b, rfl, HN.out, HB.out⟩
      · go_wp2
        go_ret
        exact ⟨false, rfl, (fun h => by cases h), Below.refl _ _⟩

/-! ### put7 -/
/-- Steps read as a row. -/
theorem Sts.row {pk : St → Value → Value → List Value} (h4 : ∀ e u v, (pk e u v).length = 4) {w : World} {A : Option Addr} {E : List St} (h : Sts pk w A E) : ∃ R, Kids pk w R E ∧ Reads w w.heap.size 4 A E.length R.flatten := by
  have each : ∀ k : Nat, ∃ r : List Value, ∀ e, E[k]? = some e → ∃ ad u v, A = some ad ∧ ad.block < w.heap.size ∧ r = pk e u v ∧ Lines w u e.names ∧ Ints w v e.hides ∧ ∀ j x, r[j]? = some x → w.cell? ((ad.add (k * 4)).add j) = some x := by
    intro k
    cases he : E[k]? with
    | none => exact ⟨[], fun e h => by cases h⟩
    | some e =>
      obtain ⟨ad, u, v, e1, h1, h2, h3, h4⟩ := h k e he
      exact ⟨pk e u v, fun e' h' => by injection h' with h'; subst h'; exact ⟨ad, u, v, e1, h1, rfl, h2, h3, h4⟩⟩
  have hat : ∀ (k : Nat) (r : List Value), ((List.range E.length).map fun k => (each k).choose)[k]? = some r → k < E.length ∧ r = (each k).choose := by
    intro k r hr
    have hk : k < E.length := by have := (List.getElem?_eq_some_iff.1 hr).1; simpa using this
    refine ⟨hk, ?_⟩
    rw [List.getElem?_map, List.getElem?_range hk] at hr
    exact (Option.some.inj hr).symm
  have hK : Kids pk w ((List.range E.length).map fun k => (each k).choose) E := by
    refine ⟨by simp, fun k e r he hr => ?_⟩
    obtain ⟨hk, rfl⟩ := hat k r hr
    obtain ⟨ad, u, v, _, _, h2, h3, h4, _⟩ := (each k).choose_spec e he
    exact ⟨u, v, h2, h3, h4⟩
  refine ⟨_, hK, ?_, ?_⟩
  · rw [flat4_len (hK.four h4), hK.1]
  · intro hn
    obtain ⟨ad, u, v, e1, h1, _⟩ := h 0 _ (List.getElem?_eq_getElem hn)
    subst e1
    refine ⟨ad, rfl, h1, fun j x hx => ?_⟩
    have hjl : j < E.length * 4 := by
      have := (List.getElem?_eq_some_iff.1 hx).1
      rw [flat4_len (hK.four h4), hK.1] at this
      exact this
    have hk : j / 4 < E.length := by omega
    have he := List.getElem?_eq_getElem hk
    obtain ⟨ad', u', v', e1', _, h2, _, _, hc⟩ := (each (j / 4)).choose_spec _ he
    injection e1' with e1'
    subst e1'
    have hr : ((List.range E.length).map fun k => (each k).choose)[j / 4]? = some (each (j / 4)).choose := by
      rw [List.getElem?_map, List.getElem?_range hk]
      rfl
    have hl4 : j % 4 < ((each (j / 4)).choose).length := by rw [h2, h4]; omega
    have hv := List.getElem?_eq_getElem hl4
    have hf := flat4_at (hK.four h4) hr hv
    rw [show j / 4 * 4 + j % 4 = j by omega] at hf
    rw [hf] at hx
    rw [← hx] at *
    have := hc (j % 4) _ hv
    rw [add_of_add, show j / 4 * 4 + j % 4 = j by omega] at this
    rw [this]
theorem info_S : (Tryd.prog.info? 26).map (fun i => (i.zero, i.size, i.bytes)) = some (some (.agg #[.bool false, .string ⟨#[]⟩, .slice none 0 0, .slice none 0 0]), 4, 72) := by kernel_rfl
theorem kids_one {w : World} {R : List (List Value)} {E : List St} (h : Kids cellsS w R E) : ∀ u ∈ R.flatten, u.oneCell' = true := by
  intro x hx
  obtain ⟨r, hr, hxr⟩ := List.mem_flatten.1 hx
  obtain ⟨k, hk, rfl⟩ := List.mem_iff_getElem.1 hr
  have hE : k < E.length := by have := h.1; omega
  obtain ⟨u, v, e, ⟨_, _, rfl, _⟩, ⟨_, _, rfl, _⟩⟩ := h.2 k _ _ (List.getElem?_eq_getElem hE) (List.getElem?_eq_getElem hk)
  rw [e] at hxr
  simp [cellsS] at hxr
  rcases hxr with rfl | rfl | rfl | rfl <;> rfl
theorem own_empty4 (W : World) (n base size : Nat) (t : TypeId) (hb : base ≤ W.heap.size) (hn : W.heap.size = n) : (W.alloc (.cells #[] t)).ownsRow base t size (.slice (some ⟨n, 0, none⟩) 0 0) 0 [] := by
  subst hn
  exact World.ownsRow_lit W #[] 0 hb (Nat.zero_le _) (by simp)
theorem reads0 (w : World) (B size : Nat) (A : Option Addr) : Reads w B size A 0 [] := ⟨by simp, fun h => absurd h (by omega)⟩
def PutTo (w : World) (E : List St) (e : Ending) (w' : World) : Prop := ∃ A c, e = .returned (.slice A E.length c) ∧ E.length ≤ c ∧ Sts cellsS w' A E ∧ Below w.heap.size w w'
set_option maxRecDepth 100000 in
set_option maxHeartbeats 2000000 in
theorem put_any (A : Option Addr) (c c2 : Nat) (ad : Addr) (E : List St) (x : St) (u v : Value) (w : World) (h : Sts cellsS w A E) (hc : E.length ≤ c) (hcm : c ≤ maxLen) (hm : E.length ≤ 2147483647) (hx : Reads w w.heap.size 4 (some ad) 1 (cellsS x u v)) (hu : Lines w u x.names) (hv : Ints w v x.hides) :
    Calls Tryd.prog 7 #[.slice A E.length c, .int .i64 E.length, .slice (some ad) 1 c2] w (PutTo w (E ++ [x])) := by
  obtain ⟨i26, hi26, hz26, hz26', hz26''⟩ := info_parts info_S
  obtain ⟨R, hk, hr⟩ := h.row cellsS_four
  have HK := Lib.hid hk
  have HR := Lib.hid hr
  have HX := Lib.hid hx
  have HU := Lib.hid hu
  have HV := Lib.hid hv
  have hcm' : c ≤ 9223372036854775807 := by unfold maxLen at hcm; omega
  have z1 : (E.length : Int) ≤ (c : Int) := by omega
  have z0 : (0 : Int) ≤ (E.length : Int) := by omega
  clear hk hr hx hu hv h hcm
  go_enter Tryd.func7, Tryd.ntmps7
  go_wp2_with ((at_builtin; refine wpList_append_any _ rfl (.tmp 8) (.tmp 11) _ rfl w.heap.size 26 i26 _ 4 72 Tryd.underlying22 hi26 hz26 hz26' hz26'' rfl (by omega) (.slice (some ⟨w.heap.size, 0, none⟩) 0 0) 0 [] rfl (own_empty4 w _ _ _ _ (Nat.le_refl _) rfl) w.heap.size A E.length c R.flatten rfl (HR.out.below ((Below.refl _ _).alloc (Nat.le_refl _) _)) (kids_one HK.out) (by simp only [maxLen]; omega) (by omega) (by simp) ?_; intro v1 w1 hown1 hg1 hat1))
  simp only [Nat.zero_add, List.nil_append] at hown1
  have hB1 : Below w.heap.size w w1 := ((Below.refl _ _).alloc (Nat.le_refl _) _).grown hg1 (by simp) (fun a ha => by simp [Value.ownBlock] at ha; omega)
  have HB1 := Lib.hid hB1
  have hs1 := hB1.size
  have HO1 := Lib.hid hown1
  have hx1 : ∀ y ∈ cellsS x u v, y.oneCell' = true := by
    intro y hy
    obtain ⟨_, _, rfl, _⟩ := HU.out
    obtain ⟨_, _, rfl, _⟩ := HV.out
    simp [cellsS] at hy
    rcases hy with rfl | rfl | rfl | rfl <;> rfl
  have HX1 := Lib.hid hx1
  clear hown1 hg1 hat1 hB1 hx1
  by_cases hcn : c = E.length
  all_goals
    have HCN := Lib.hid hcn
    clear hcn
    go_region_held3 (fun _ => True) (exact trivial)
      (first
        | ((refine step_append_any _ (by rfl) (.tmp 13) (.tmp 14) _ (by rfl) w.heap.size 26 i26 _ 4 72 Tryd.underlying22 hi26 hz26 hz26' hz26'' rfl (by omega) v1 E.length R.flatten (by rfl) HO1.out.drew w.heap.size (some ad) 1 c2 (cellsS x u v) (by rfl) (HX.out.below HB1.out).drew HX1.out (by simp only [maxLen]; omega) (by omega) (by simp; omega) ?_; intro v2 w2 hown2 hg2 hat2))
        | ((refine step_append_any _ (by rfl) (.tmp 15) (.tmp 18) _ (by rfl) w.heap.size 26 i26 _ 4 72 Tryd.underlying22 hi26 hz26 hz26' hz26'' rfl (by omega) v2 (E.length + 1) (R.flatten ++ cellsS x u v) (by rfl) hown2 w.heap.size _ 0 _ [] (by rfl) (reads0 _ _ _ _) (by simp) (by simp only [maxLen]; omega) (by omega) (by have := hg2.size; simp at this; omega) ?_; intro v3 w3 hown3 hg3 hat3)))
    have hb2 : Below w.heap.size w w2 := (HB1.out.drew).grown hg2 hs1 (fun a ha => (HO1.out.lt a ha).1)
    have hb3 : Below w.heap.size w w3 := hb2.grown hg3 hb2.size (fun a ha => (hown2.lt a ha).1)
    have ho3 : w3.ownsRow w.heap.size 26 4 v3 (E ++ [x]).length (R ++ [cellsS x u v]).flatten := by
      rw [flat4_snoc, List.length_append]
      simpa using hown3
    obtain ⟨A3, c3, rfl, hc3, hs3⟩ := Kids.sts cellsS_four ho3 ((HK.out.below hb3).snoc (HU.out.below hb3) (HV.out.below hb3))
    have HS3 := Lib.hid hs3
    have HB3 := Lib.hid hb3
    have HC3 := Lib.hid hc3
    clear hown2 hg2 hat2 hown3 hg3 hat3 hb2 hb3 ho3 hc3 hs3
    go_wp2
    go_ret
    exact ⟨A3, c3, (by simp), HC3.out, HS3.out, HB3.out⟩
theorem fits11_no (A : Option Addr) (c n : Nat) (w : World) (hm : 2147483647 < n) : Calls Tryd.prog 5 #[.slice A n c] w fun e w' => e = .returned (.bool false) ∧ w = w' := by
  have hd : decide ((2147483647 : Int) < (n : Nat)) = true := decide_eq_true (by omega)
  go_enter Tryd.func5, Tryd.ntmps5
  go_wp2
  go_ret
  exact ⟨rfl, rfl⟩
end Go.Proofs.YthmijakellfbiaaDoor
