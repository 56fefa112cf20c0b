/-
  The card of FnOpTexts: for every number and text the law returns true, the variable of the operators' texts being what the program's text lays. Conditions: none but that tie.
-/
import Derived.Test.YtcehhkpeleaeaaaDoorOpC
import Derived.Test.YtcehhkpeleaeaaaDoorCards
import Derived.Test.YtcehhkpeleaeaaaDoorTie
import Derived.WalkKit
import Derived.ProofKit
import Derived.OpenShut
import Derived.ShutString
import Derived.ChangeOld
import Derived.Below
import Derived.OpenVars
import Derived.LaidMore
import Derived.SliceStrings
import Derived.Stop.Joined
import Derived.SevenTiedAt
namespace Go.Proofs.YtcehhkpeleaeaaaDoor
open Go.ChangeShapes Go.WideShapes Go.ChangeAt Go.RowKit
open Go.ChangeMaps (open_string shut_string)
set_option linter.unusedVariables false

theorem own : ownKnob Tryd.prog.godebug = none := by kernel_rfl
theorem laidOut : laidOutB Tryd.prog = true := by kernel_rfl
theorem gBop : Tryd.prog.globalNamed (Rows.fnOpTextsRow.laid.map (·.1)).head! = some 0 := by kernel_rfl
theorem tBop : (Tryd.prog.globals[0]?).map (·.type) = some 28 := by kernel_rfl
theorem cells9 : Tryd.prog.cellsOf 9 = 1 := by kernel_rfl

theorem door_met (os : Os) (args : Array Value) : laidMetH Tryd.prog Rows.fnOpTextsRow.laid ((World.doorLaid Tryd.prog 400 os).forCall (fun _ _ => 0) ⟨#[], args, []⟩).memory :=
  laidMetH_of_parts3 (fuel := 8) (laidMet_of_run' 8 (by kernel_rfl) (by kernel_rfl)) (by kernel_rfl) (by kernel_rfl)

theorem list_of_strs {H : Type} : ∀ {xs : List ByteArray} {ls : List (List UInt8)}, strs (H := H) xs = ls.map (fun l => .lit (.string l)) → ∀ k (h : k < ls.length), xs.getD k ByteArray.empty = ⟨(ls.getD k []).toArray⟩ := by
  intro xs ls h k hk
  have hl : xs.length = ls.length := by simpa [strs] using congrArg List.length h
  have h2 := congrArg (fun l => l[k]?) h
  simp only [strs, List.getElem?_map, List.getElem?_eq_getElem hk, List.getElem?_eq_getElem (show k < xs.length by omega), Option.map_some, Option.some.injEq, DataW.lit.injEq, Lit.string.injEq] at h2
  rw [List.getD_eq_getElem?_getD, List.getD_eq_getElem?_getD, List.getElem?_eq_getElem hk, List.getElem?_eq_getElem (show k < xs.length by omega)]
  simp only [Option.getD_some, ← h2]

theorem of_laid {W : World} (h : laidMetH Tryd.prog Rows.fnOpTextsRow.laid W) : Laid W := by
  rw [MakeChecks.laidMetH_plain _ _ _ (by kernel_rfl)] at h
  obtain ⟨ps, ⟨g0, t0, cs0, f0, p0, q0, hg0, ht0, hv0, hd0, _, _⟩, _, _⟩ := h
  obtain rfl := Option.some.inj (gBop.symm.trans hg0)
  obtain rfl := Option.some.inj (tBop.symm.trans ht0)
  rcases open_strings Tryd.underlying28 Tryd.underlying9 cells9 hd0 with ⟨_, hx⟩ | ⟨a, len, cap, ss, hcs, _, hl, hm, hlen, hx, hcell, _⟩
  · simp [Rows.laid_given_example_pub_rondel_pub_jsonnet_ast_bopStrings] at hx
  simp only [Prod.mk.injEq] at hx
  have hx1 := hx.1
  unfold Rows.laid_given_example_pub_rondel_pub_jsonnet_ast_bopStrings at hx1
  simp only [DataW.slice.injEq] at hx1
  obtain ⟨e1, e2⟩ := hx1
  simp only [if_true] at hlen
  have hd : (ss.drop len).length = 0 := by
    have := congrArg List.length e2
    simpa [strs] using this.symm
  have ht : (ss.take len).length = 19 := by
    have := congrArg List.length e1
    simpa [strs] using this.symm
  have h19 : len = 19 := by rw [List.length_take] at ht; rw [List.length_drop] at hd; omega
  have hc19 : cap = 19 := by rw [List.length_drop] at hd; omega
  subst h19
  subst hc19
  have hall : ss.take 19 = ss := List.take_of_length_le (by omega)
  rw [hall] at e1
  have hel := list_of_strs (H := Unit) (xs := ss) (ls := bopL) (by rw [← e1]; rfl)
  have c0 : W.cell? ⟨0, 0, none⟩ = some (.slice (some a) 19 19) := by
    have := World.var?_cell hg0 hv0 0
    rw [Array.eq_one_of_toList hcs] at this
    simpa using this
  have hcell' : ∀ k, k < 19 → W.cell? (a.add k) = some (.string (bs k)) := fun k hk => by
    have := hcell k (by omega)
    rw [hel k hk] at this
    exact this
  have hs := World.cell?_spot (hcell' 0 (by omega))
  obtain ⟨b, o, sp⟩ := a
  have hsp : sp = none := by simpa [Addr.add] using hs
  subst hsp
  exact ⟨b, o, by have := World.block_lt_of_cell? _ _ (hcell' 0 (by omega)); simpa [Addr.add] using this, c0, fun k hk => by
    rcases Nat.eq_zero_or_pos k with h | h
    · subst h; have := hcell' 0 hk; simpa [Addr.add] using this
    · have := hcell' k hk; simpa [Addr.add, show ¬ k = 0 by omega] using this⟩

theorem walk (a0 : Int) (w0 : (Lit.int .i64 a0).wf = true) (a1 : ByteArray) (w1 : a1.size ≤ maxLen) (w : World) (hl : Laid w) :
    Calls Tryd.prog 3 #[.int .i64 a0, .string a1] w fun e w' => e = .returned (.bool true) ∧ Below w.heap.size w w' := by
  by_cases hs : a1.size ≤ 2147483647
  · by_cases hk : a0 < 1 ∨ 20 ≤ a0
    · exact walk_out a0 hk a1 hs w hl
    · obtain ⟨k, rfl⟩ := Int.eq_ofNat_of_zero_le (show 0 ≤ a0 by omega)
      exact walk_inside k (by omega) (by omega) a1 hs w hl
  · have hm : a1.size ≤ 9223372036854775807 := by unfold maxLen at w1; omega
    clear hl
    go_enter Tryd.func3, Tryd.ntmps3
    go_wp2
    all_goals
      go_ret
      exact ⟨rfl, Below.refl _ _⟩

set_option maxRecDepth 100000 in
theorem lifted (os : Os) (started : os.Started) (H : Type) (enc : TypeId × Value → H) :
    ReturnsInHanded {} Tryd.checked os 3 .any (fun w args => (Rows.fnOpTextsSpec.pre enc Tryd.prog Tryd.f3 [] false w args ∧ laidMetH Tryd.prog Rows.fnOpTextsRow.laid w) ∧ sizedMet enc Tryd.prog Tryd.f3 (OpenSpec.ofChange Rows.fnOpTextsSpec) false w args)
      (Rows.fnOpTextsSpec.post enc Tryd.prog Tryd.f3 false true false false) := by
  refine returnsInHanded_of_change_and (C := Tryd.checked) (X := fun w _ => laidMetH Tryd.prog Rows.fnOpTextsRow.laid w) (fun _ _ _ hh h => h.of_heap hh) own started (by kernel_rfl) Tryd.func3
    (ChangeSpec.witness_shaped (enc := enc) (C := Tryd.checked) (os := os) (X := fun w _ => laidMetH Tryd.prog Rows.fnOpTextsRow.laid w) false (World.doorLaid Tryd.prog 400 os) #[.int .i64 0, .string ⟨#[]⟩] 8 rfl (World.shaped_of_RefB (by kernel_rfl) (by kernel_rfl)) (by kernel_rfl) (by kernel_rfl) (by kernel_rfl) (door_met os _)) ?_
  intro W base args ds gs before hval0 hW _ _ hL _
  have hval : ∀ (j : Nat) t v, Tryd.f3.params[j]? = some t → args[j]? = some v → Value.okWide Tryd.prog W .any base t v := hval0
  have hW' := hW
  obtain ⟨p, q, hA0, hV, rfl, hfz, hnd⟩ := hW
  have hA : DataW.TrodAll enc Tryd.prog W 0 (fun _ => true) true Tryd.f3.params.toList args.toList ds p := hA0
  rw [Tryd.params3] at hA hval
  obtain ⟨v0, vs0, d0, ds0, p0, q0, hargs, rfl, rfl, h0, r0⟩ := trodAll_cons hA
  obtain ⟨v1, vs1, d1, ds1, p1, q1, rfl, rfl, rfl, h1, r1⟩ := trodAll_cons r0
  obtain ⟨rfl, rfl, rfl⟩ := trodAll_nil r1
  obtain rfl : args = #[v0, v1] := by cases args; simp_all
  obtain ⟨g, t, cs, fuel, d, p', rfl, hg, ht, hvar, hd, rfl⟩ := trodVars_one hV
  have k0 := h0
  have lt0 : ∀ x ∈ p0, x.block < W.heap.size := by obtain ⟨m, hm⟩ := k0; exact DataW.trod_lt m _ _ _ hm
  have k1 := h1
  have lt1 : ∀ x ∈ p1, x.block < W.heap.size := by obtain ⟨m, hm⟩ := k1; exact DataW.trod_lt m _ _ _ hm
  obtain ⟨a0, rfl, rfl, rfl, w0⟩ := open_int Tryd.underlying3 (hval 0 3 v0 rfl rfl) h0
  obtain ⟨a1, rfl, rfl, rfl, w1⟩ := open_string Tryd.underlying9 (hval 1 9 v1 rfl rfl) h1
  clear hA0 hval0
  refine (walk a0 w0 a1 w1 W (of_laid hL)).mono fun e W' ⟨he, bel⟩ => ?_
  subst he
  exact ⟨_, rfl, _, _, _, [], _, _, hW', trodAll_mk1 (shut_bool Tryd.underlying4 _), (trodAll_cons_mk (Below.trod laidOut (by kernel_rfl) (of_decide_eq_true (by kernel_rfl)) k0 bel lt0) (trodAll_cons_mk (Below.trod laidOut (by kernel_rfl) (of_decide_eq_true (by kernel_rfl)) k1 bel lt1) trodAll_mk0)), Below.trodVars laidOut bel (by kernel_rfl) hV, bel.frame _, fun h => by cases h⟩

theorem over : Rows.fnOpTextsRow.holds Tryd.pinned (OpenSpec.ofChange Rows.fnOpTextsSpec) :=
  OpenClaim.holds_of_wide 3 Tryd.f3 rfl rfl rfl rfl rfl rfl rfl ⟨rfl, rfl, rfl, rfl, rfl⟩ rfl rfl rfl rfl rfl (by kernel_rfl) Tryd.func3 (by kernel_rfl)
    (of_decide_eq_true (by kernel_rfl)) (by unfold Func.isWrapper; first | (rw [if_pos (by decide +kernel)]; kernel_rfl) | (rw [if_neg (by decide +kernel)]; exact ⟨rfl, rfl⟩))
    (fun os started H enc _ => lifted os started H enc)

theorem proved : Rows.FnOpTextsCardSaid :=
  Claim7.holds_tied_plain_at .later [] [.data] true (true, "2f8667b1b6057deb3ccf5261123ac2ccd46cd83b81e18cf87d541ee20de2e959") false
    over (fun _ h => by cases h) (by kernel_rfl) (fun _ h => by cases h) fnOpTexts_row_tie rfl ⟨rfl, rfl⟩ (by kernel_rfl) rfl
    (fun f fn hf hfn => by
      obtain rfl : f = 3 := Option.some.inj ((show Tryd.prog.funcNamed Rows.fnOpTextsRow.func = some 3 by kernel_rfl).symm.trans hf) |>.symm
      obtain rfl : fn = Tryd.f3 := (Option.some.inj (Tryd.func3.symm.trans hfn)).symm
      exact ⟨by kernel_rfl, fun j t ht => by
        rw [Tryd.params3] at ht
        have hm : t ∈ [3, 9] := by simpa using Array.mem_of_getElem? ht
        have hall : ([3, 9].all fun u => !Tryd.prog.wantsStandIn u) = true := by kernel_rfl
        exact (show Tryd.prog.wantsStandIn t = false by simpa using List.all_eq_true.1 hall t hm)⟩)
    (by kernel_rfl)
#print axioms proved
end Go.Proofs.YtcehhkpeleaeaaaDoor
