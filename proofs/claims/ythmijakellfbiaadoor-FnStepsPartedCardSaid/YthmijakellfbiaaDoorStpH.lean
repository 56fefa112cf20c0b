/-
  Steps: which steps the law takes. Conditions: the library's two tables lie there.
-/
import Derived.Test.YthmijakellfbiaaDoorStpI
import Derived.Test.YthmijakellfbiaaDoorLay
import Derived.Test.YthmijakellfbiaaDoorReg
import Derived.Lib.LaidU8
import Derived.Deep.DrawnRows
namespace Go.Proofs.YthmijakellfbiaaDoor
open Go.RowKit
set_option linter.unusedVariables false
set_option linter.unusedSimpArgs false
attribute [local go_sem ↓] Go.wp_at_zero Go.wp_at_succ

/-- The two tables lie there. -/
def Tabs (w : World) : Prop := Lib.Utf8Tabs (lays196_ren.g 3) (lays196_ren.g 4) w
theorem Tabs.below {w w' : World} (h : Tabs w) (hb : Below w.heap.size w w') : Tabs w' := by
  have key : ∀ {p : Addr} {v : Value}, w.cell? p = some v → w'.cell? p = some v := fun h => (hb.cell (World.block_lt_of_cell? _ _ h)).trans h
  exact ⟨fun c hc => key (h.1 c hc), fun i hi => ⟨key (h.2 i hi).1, key (h.2 i hi).2⟩⟩
theorem Tabs.drew {w : World} (h : Tabs w) : Tabs w.drew := h
def BoolOf (w : World) (e : Ending) (w' : World) : Prop := ∃ b, e = .returned (.bool b) ∧ Below w.heap.size w w'
theorem valid_any (s : ByteArray) (hs : s.size ≤ maxLen) (w : World) (hT : Tabs w) : Calls Tryd.prog 20 #[.string s] w (BoolOf w) :=
  (Any.utf8_ValidString lays196 s w (by unfold maxLen at hs; omega) hT).mono fun e w' ⟨h1, h2⟩ => ⟨_, h1, h2⟩
/-- Sizes of what a step holds. -/
def Sizes (E : List St) : Prop := ∀ (k : Nat) (e : St), E[k]? = some e → e.rem.size ≤ maxLen ∧ ∀ s ∈ e.names, s.size ≤ maxLen
def Okh (e : St) : Prop := e.hides.length = e.names.length ∧ ∀ h ∈ e.hides, 0 ≤ h ∧ h ≤ 2
def OkTo (w : World) (E : List St) (e : Ending) (w' : World) : Prop := ∃ b, e = .returned (.bool b) ∧ (b = true → ∀ (k : Nat) (e : St), E[k]? = some e → Okh e) ∧ Below w.heap.size w w'
theorem below_drewN {B : Nat} {a w : World} (h : Below B a w) (n : Nat) : Below B a (w.drewN n) := ⟨h.os, h.tape, h.output, h.size, h.block⟩
theorem of_drew {w w' : World} (h : Below w.heap.size w.drew w') : Below w.heap.size w w' := ⟨h.os, h.tape, h.output, h.size, h.block⟩

set_option maxRecDepth 100000 in
set_option maxHeartbeats 2000000 in
theorem stepsok_any (A : Option Addr) (c : Nat) (E : List St) (w : World) (h : Sts cellsS w A E) (hE : E.length ≤ 12) (hZ : Sizes E) (hN : ∀ (k : Nat) (e : St), E[k]? = some e → e.names.length ≤ 12) (hT : Tabs w) : Calls Tryd.prog 14 #[.slice A E.length c] w (OkTo w E) := by
  have HR := Lib.hid h
  have HZ := Lib.hid hZ
  have HNN := Lib.hid hN
  have HT := Lib.hid hT
  clear h hZ hN hT
  go_enter Tryd.func14, Tryd.ntmps14
  go_wp2
  go_loopw [3] (fun i wr => ∃ k : Nat, k ≤ E.length ∧ i = .int .i64 k ∧ (∀ (j : Nat) (e : St), j < k → E[j]? = some e → Okh e) ∧ Below w.heap.size w wr) (fun i _ => E.length - (intOf i).toNat)
  case atStart => exact ⟨0, by omega, rfl, fun j e h => absurd h (by omega), Below.refl _ _⟩
  case round =>
    obtain ⟨k, hk, rfl, hall, hbw⟩ := hrel
    obtain ⟨wo, rfl⟩ : ∃ wo : World, wo = wr := ⟨_, rfl⟩
    have HA := Lib.hid hall
    have HB := Lib.hid hbw
    have hsz := hbw.size
    clear hall
    by_cases hlt : k < E.length
    · obtain ⟨e, he⟩ : ∃ e, E[k]? = some e := ⟨_, List.getElem?_eq_getElem hlt⟩
      obtain ⟨ad, u, v, rfl, hb, hu, hv, hc⟩ := HR.out k e he
      have hn12 := HNN.out k e he
      have hz := HZ.out k e he
      obtain ⟨g0, g1, g2, g3⟩ := four_of hc
      have h0 := cell_below g0 hbw
      have h1 := cell_below g1 hbw
      have h2 := cell_below g2 hbw
      have h3 := cell_below g3 hbw
      have HEk := Lib.hid he
      obtain ⟨is_, rem, ns, hs⟩ := e
      obtain ⟨A', c', rfl, -, hr1⟩ := hu
      obtain ⟨A2, c2, rfl, -, hr2⟩ := hv
      simp only at h0 h1 h2 h3 hr1 hr2 hn12 hz
      have HR1 := Lib.hid (hr1.below hbw)
      have HR2 := Lib.hid (hr2.below hbw)
      have HZk := Lib.hid hz
      have z0 : (0 : Int) ≤ (k : Int) := Int.natCast_nonneg _
      have z1 : (k : Int) < (E.length : Int) := by omega
      clear he hc hr1 hr2 hb g0 g1 g2 g3 hz
      by_cases hl : hs.length = ns.length
      · rw [hl] at h3
        have HL := Lib.hid hl
        have H2 := Lib.hid h2
        have H3 := Lib.hid h3
        clear hl
        have hd : ((ns.length : Int) != (ns.length : Int)) = false := by simp
        cases is_
        · by_cases hrem : rem = ⟨#[]⟩
          · have hd1 : rem.toList = [] := by rw [hrem, Lib.toList_data]
            have hd2 : rem.toList.isEmpty = true := by rw [hd1]; rfl
            clear hd hrem
            go_wp2_with fail
            refine wp_region_held_drew (S := (fun w' => w'.cell? (ad.add (k * 4)) = some (.bool false) ∧ w'.cell? ⟨(ad.add (k * 4)).block, (ad.add (k * 4)).off + 1, none⟩ = some (.string rem) ∧ w'.cell? ⟨(ad.add (k * 4)).block, (ad.add (k * 4)).off + 2, none⟩ = some (.slice A' ns.length c') ∧ w'.cell? ⟨(ad.add (k * 4)).block, (ad.add (k * 4)).off + 3, none⟩ = some (.slice A2 ns.length c2))) (by kernel_rfl) ⟨h0, h1, h2, h3⟩ (fun hHeld => ?_)
            refine takeH (i := 0) 13 ?ve0 rfl (by rfl) (by kernel_rfl) (by kernel_rfl) (by kernel_rfl) (fun _ _ _ h => h) (Or.inl ⟨by rfl, ?hye0⟩) (by assumption) ?reste0
            case hye0 => (intro w hSw; (try dsimp only at hSw); go_simp; try (with_reducible rfl))
            (try simp only [List.setIfInBounds_toArray, List.set_cons_zero, List.set_cons_succ])
            refine takeH (i := 1) 14 ?ve1 rfl (by rfl) (by kernel_rfl) (by kernel_rfl) (by kernel_rfl) (fun _ _ _ h => h) (Or.inl ⟨by rfl, ?hye1⟩) (by assumption) ?reste1
            case hye1 => (intro w hSw; (try dsimp only at hSw); go_simp; try (with_reducible rfl))
            (try simp only [List.setIfInBounds_toArray, List.set_cons_zero, List.set_cons_succ])
            refine takeH (i := 2) 15 ?ve2 rfl (by rfl) (by kernel_rfl) (by kernel_rfl) (by kernel_rfl) (fun _ _ _ h => h) (Or.inl ⟨by rfl, ?hye2⟩) (by assumption) ?reste2
            case hye2 => (intro w hSw; (try dsimp only at hSw); go_simp; try (with_reducible rfl))
            (try simp only [List.setIfInBounds_toArray, List.set_cons_zero, List.set_cons_succ])
            refine takeH (i := 3) 16 ?ve3 rfl (by rfl) (by kernel_rfl) (by kernel_rfl) (by kernel_rfl) (fun _ _ _ h => h) (Or.inl ⟨by rfl, ?hye3⟩) (by assumption) ?reste3
            case hye3 => (intro w hSw; (try dsimp only at hSw); go_simp; try (with_reducible rfl))
            (try simp only [List.setIfInBounds_toArray, List.set_cons_zero, List.set_cons_succ])
            refine takeH (i := 4) 17 ?ve4 rfl (by rfl) (by kernel_rfl) (by kernel_rfl) (by kernel_rfl) (fun _ _ _ h => h) (Or.inl ⟨by rfl, ?hye4⟩) (by assumption) ?reste4
            case hye4 => (intro w hSw; (try dsimp only at hSw); go_simp; try (with_reducible rfl))
            (try simp only [List.setIfInBounds_toArray, List.set_cons_zero, List.set_cons_succ])
            refine takeH (i := 5) 18 ?ve5 rfl (by rfl) (by kernel_rfl) (by kernel_rfl) (by kernel_rfl) (fun _ _ _ h => h) (Or.inl ⟨by rfl, ?hye5⟩) (by assumption) ?reste5
            case hye5 => (intro w hSw; (try dsimp only at hSw); go_simp; try (with_reducible rfl))
            (try simp only [List.setIfInBounds_toArray, List.set_cons_zero, List.set_cons_succ])
            refine takeH (i := 6) 19 ?ve6 rfl (by rfl) (by kernel_rfl) (by kernel_rfl) (by kernel_rfl) (fun _ _ _ h => h) (Or.inl ⟨by rfl, ?hye6⟩) (by assumption) ?reste6
            case hye6 => (intro w hSw; (try dsimp only at hSw); go_simp; try (with_reducible rfl))
            (try simp only [List.setIfInBounds_toArray, List.set_cons_zero, List.set_cons_succ])
            refine takeH (i := 7) 20 ?ve7 rfl (by rfl) (by kernel_rfl) (by kernel_rfl) (by kernel_rfl) (fun _ _ _ h => h) (Or.inl ⟨by rfl, ?hye7⟩) (by assumption) ?reste7
            case hye7 => (intro w hSw; (try dsimp only at hSw); go_simp; try (with_reducible rfl))
            (try simp only [List.setIfInBounds_toArray, List.set_cons_zero, List.set_cons_succ])
            refine takeH (i := 8) 21 ?ve8 rfl (by rfl) (by kernel_rfl) (by kernel_rfl) (by kernel_rfl) (fun _ _ _ h => h) (Or.inl ⟨by rfl, ?hye8⟩) (by assumption) ?reste8
            case hye8 => (intro w hSw; (try dsimp only at hSw); go_simp; try (with_reducible rfl))
            (try simp only [List.setIfInBounds_toArray, List.set_cons_zero, List.set_cons_succ])
            refine takeH (i := 9) 22 ?ve9 rfl (by rfl) (by kernel_rfl) (by kernel_rfl) (by kernel_rfl) (fun _ _ _ h => h) (Or.inl ⟨by rfl, ?hye9⟩) (by assumption) ?reste9
            case hye9 => (intro w hSw; (try dsimp only at hSw); go_simp; try (with_reducible rfl))
            (try simp only [List.setIfInBounds_toArray, List.set_cons_zero, List.set_cons_succ])
            refine takeH (i := 10) 23 ?ve10 rfl (by rfl) (by kernel_rfl) (by kernel_rfl) (by kernel_rfl) (fun _ _ _ h => h) (Or.inl ⟨by rfl, ?hye10⟩) (by assumption) ?reste10
            case hye10 => (intro w hSw; (try dsimp only at hSw); go_simp; try (with_reducible rfl))
            (try simp only [List.setIfInBounds_toArray, List.set_cons_zero, List.set_cons_succ])
            refine takeH (i := 11) 24 ?ve11 rfl (by rfl) (by kernel_rfl) (by kernel_rfl) (by kernel_rfl) (fun _ _ _ h => h) (Or.inl ⟨by rfl, ?hye11⟩) (by assumption) ?reste11
            case hye11 => (intro w hSw; (try dsimp only at hSw); go_simp; try (with_reducible rfl))
            (try simp only [List.setIfInBounds_toArray, List.set_cons_zero, List.set_cons_succ])
            refine takeH (i := 12) 25 ?ve12 rfl (by rfl) (by kernel_rfl) (by kernel_rfl) (by kernel_rfl) (fun _ _ _ h => h) (Or.inl ⟨by rfl, ?hye12⟩) (by assumption) ?reste12
            case hye12 => (intro w hSw; (try dsimp only at hSw); go_simp; try (with_reducible rfl))
            (try simp only [List.setIfInBounds_toArray, List.set_cons_zero, List.set_cons_succ])
            refine takeH (i := 13) 26 ?ve13 rfl (by rfl) (by kernel_rfl) (by kernel_rfl) (by kernel_rfl) (fun _ _ _ h => h) (Or.inl ⟨by rfl, ?hye13⟩) (by assumption) ?reste13
            case hye13 => (intro w hSw; (try dsimp only at hSw); go_simp; try (with_reducible rfl))
            (try simp only [List.setIfInBounds_toArray, List.set_cons_zero, List.set_cons_succ])
            refine takeH (i := 14) 27 ?ve14 rfl (by rfl) (by kernel_rfl) (by kernel_rfl) (by kernel_rfl) (fun _ _ _ h => h) (Or.inl ⟨by rfl, ?hye14⟩) (by assumption) ?reste14
            case hye14 => (intro w hSw; (try dsimp only at hSw); go_simp; try (with_reducible rfl))
            (try simp only [List.setIfInBounds_toArray, List.set_cons_zero, List.set_cons_succ])
            refine takeH (i := 15) 28 ?ve15 rfl (by rfl) (by kernel_rfl) (by kernel_rfl) (by kernel_rfl) (fun _ _ _ h => h) (Or.inl ⟨by rfl, ?hye15⟩) (by assumption) ?reste15
            case hye15 => (intro w hSw; (try dsimp only at hSw); go_simp; try (with_reducible rfl))
            (try simp only [List.setIfInBounds_toArray, List.set_cons_zero, List.set_cons_succ])
            refine takeH (i := 16) 29 ?ve16 rfl (by rfl) (by kernel_rfl) (by kernel_rfl) (by kernel_rfl) (fun _ _ _ h => h) (Or.inl ⟨by rfl, ?hye16⟩) (by assumption) ?reste16
            case hye16 => (intro w hSw; (try dsimp only at hSw); go_simp; try (with_reducible rfl))
            (try simp only [List.setIfInBounds_toArray, List.set_cons_zero, List.set_cons_succ])
            refine takeH (i := 17) 30 ?ve17 rfl (by rfl) (by kernel_rfl) (by kernel_rfl) (by kernel_rfl) (fun _ _ _ h => h) (Or.inl ⟨by rfl, ?hye17⟩) (by assumption) ?reste17
            case hye17 => (intro w hSw; (try dsimp only at hSw); go_simp; try (with_reducible rfl))
            (try simp only [List.setIfInBounds_toArray, List.set_cons_zero, List.set_cons_succ])
            refine takeH (i := 18) 31 ?ve18 rfl (by rfl) (by kernel_rfl) (by kernel_rfl) (by kernel_rfl) (fun _ _ _ h => h) (Or.inl ⟨by rfl, ?hye18⟩) (by assumption) ?reste18
            case hye18 => (intro w hSw; (try dsimp only at hSw); go_simp; try (with_reducible rfl))
            (try simp only [List.setIfInBounds_toArray, List.set_cons_zero, List.set_cons_succ])
            refine takeH (i := 19) 32 ?ve19 rfl (by rfl) (by kernel_rfl) (by kernel_rfl) (by kernel_rfl) (fun _ _ _ h => h) (Or.inl ⟨by rfl, ?hye19⟩) (by assumption) ?reste19
            case hye19 => (intro w hSw; (try dsimp only at hSw); go_simp; try (with_reducible rfl))
            (try simp only [List.setIfInBounds_toArray, List.set_cons_zero, List.set_cons_succ])
            refine takeH (i := 20) 33 undef rfl (by rfl) (by kernel_rfl) (by kernel_rfl) (by kernel_rfl) (fun _ _ _ h => h) (Or.inr ⟨by rfl, rfl⟩) (by assumption) ?_
            (try simp only [List.setIfInBounds_toArray, List.set_cons_zero, List.set_cons_succ])
            refine takeH (i := 21) 34 undef rfl (by rfl) (by kernel_rfl) (by kernel_rfl) (by kernel_rfl) (fun _ _ _ h => h) (Or.inr ⟨by rfl, rfl⟩) (by assumption) ?_
            (try simp only [List.setIfInBounds_toArray, List.set_cons_zero, List.set_cons_succ])
            refine takeH (i := 22) 35 undef rfl (by rfl) (by kernel_rfl) (by kernel_rfl) (by kernel_rfl) (fun _ _ _ h => h) (Or.inr ⟨by rfl, rfl⟩) (by assumption) ?_
            (try simp only [List.setIfInBounds_toArray, List.set_cons_zero, List.set_cons_succ])
            refine takeH (i := 23) 36 undef rfl (by rfl) (by kernel_rfl) (by kernel_rfl) (by kernel_rfl) (fun _ _ _ h => h) (Or.inr ⟨by rfl, rfl⟩) (by assumption) ?_
            (try simp only [List.setIfInBounds_toArray, List.set_cons_zero, List.set_cons_succ])
            refine takeH (i := 24) 37 undef rfl (by rfl) (by kernel_rfl) (by kernel_rfl) (by kernel_rfl) (fun _ _ _ h => h) (Or.inr ⟨by rfl, rfl⟩) (by assumption) ?_
            (try simp only [List.setIfInBounds_toArray, List.set_cons_zero, List.set_cons_succ])
            refine takeH (i := 25) 38 undef rfl (by rfl) (by kernel_rfl) (by kernel_rfl) (by kernel_rfl) (fun _ _ _ h => h) (Or.inr ⟨by rfl, rfl⟩) (by assumption) ?_
            (try simp only [List.setIfInBounds_toArray, List.set_cons_zero, List.set_cons_succ])
            refine takeH (i := 26) 39 undef rfl (by rfl) (by kernel_rfl) (by kernel_rfl) (by kernel_rfl) (fun _ _ _ h => h) (Or.inr ⟨by rfl, rfl⟩) (by assumption) ?_
            (try simp only [List.setIfInBounds_toArray, List.set_cons_zero, List.set_cons_succ])
            refine takeH (i := 27) 40 ?ve27 rfl (by rfl) (by kernel_rfl) (by kernel_rfl) (by kernel_rfl) (fun _ _ _ h => h) (Or.inl ⟨by rfl, ?hye27⟩) (by assumption) ?reste27
            case hye27 => (intro w hSw; (try dsimp only at hSw); go_simp; try (with_reducible rfl))
            (try simp only [List.setIfInBounds_toArray, List.set_cons_zero, List.set_cons_succ])
            refine takeH (i := 28) 41 ?ve28 rfl (by rfl) (by kernel_rfl) (by kernel_rfl) (by kernel_rfl) (fun _ _ _ h => h) (Or.inl ⟨by rfl, ?hye28⟩) (by assumption) ?reste28
            case hye28 => (intro w hSw; (try dsimp only at hSw); go_simp; try (with_reducible rfl))
            (try simp only [List.setIfInBounds_toArray, List.set_cons_zero, List.set_cons_succ])
            refine takeH (i := 29) 42 ?ve29 rfl (by rfl) (by kernel_rfl) (by kernel_rfl) (by kernel_rfl) (fun _ _ _ h => h) (Or.inl ⟨by rfl, ?hye29⟩) (by assumption) ?reste29
            case hye29 => (intro w hSw; (try dsimp only at hSw); go_simp; try (with_reducible rfl))
            (try simp only [List.setIfInBounds_toArray, List.set_cons_zero, List.set_cons_succ])
            refine takeH (i := 30) 43 ?ve30 rfl (by rfl) (by kernel_rfl) (by kernel_rfl) (by kernel_rfl) (fun _ _ _ h => h) (Or.inl ⟨by rfl, ?hye30⟩) (by assumption) ?reste30
            case hye30 => (intro w hSw; (try dsimp only at hSw); go_simp; try (with_reducible rfl))
            (try simp only [List.setIfInBounds_toArray, List.set_cons_zero, List.set_cons_succ])
            refine takeH (i := 31) 44 ?ve31 rfl (by rfl) (by kernel_rfl) (by kernel_rfl) (by kernel_rfl) (fun _ _ _ h => h) (Or.inl ⟨by rfl, ?hye31⟩) (by assumption) ?reste31
            case hye31 => (intro w hSw; (try dsimp only at hSw); go_simp; try (with_reducible rfl))
            (try simp only [List.setIfInBounds_toArray, List.set_cons_zero, List.set_cons_succ])
            refine takeH (i := 32) 45 ?ve32 rfl (by rfl) (by kernel_rfl) (by kernel_rfl) (by kernel_rfl) (fun _ _ _ h => h) (Or.inl ⟨by rfl, ?hye32⟩) (by assumption) ?reste32
            case hye32 => (intro w hSw; (try dsimp only at hSw); go_simp; try (with_reducible rfl))
            (try simp only [List.setIfInBounds_toArray, List.set_cons_zero, List.set_cons_succ])
            refine takeH (i := 33) 46 ?ve33 rfl (by rfl) (by kernel_rfl) (by kernel_rfl) (by kernel_rfl) (fun _ _ _ h => h) (Or.inl ⟨by rfl, ?hye33⟩) (by assumption) ?reste33
            case hye33 => (intro w hSw; (try dsimp only at hSw); go_simp; try (with_reducible rfl))
            (try simp only [List.setIfInBounds_toArray, List.set_cons_zero, List.set_cons_succ])
            refine takeH (i := 34) 47 ?ve34 rfl (by rfl) (by kernel_rfl) (by kernel_rfl) (by kernel_rfl) (fun _ _ _ h => h) (Or.inl ⟨by rfl, ?hye34⟩) (by assumption) ?reste34
            case hye34 => (intro w hSw; (try dsimp only at hSw); go_simp; try (with_reducible rfl))
            (try simp only [List.setIfInBounds_toArray, List.set_cons_zero, List.set_cons_succ])
            refine takeH (i := 35) 48 ?ve35 rfl (by rfl) (by kernel_rfl) (by kernel_rfl) (by kernel_rfl) (fun _ _ _ h => h) (Or.inl ⟨by rfl, ?hye35⟩) (by assumption) ?reste35
            case hye35 => (intro w hSw; (try dsimp only at hSw); go_simp; try (with_reducible rfl))
            (try simp only [List.setIfInBounds_toArray, List.set_cons_zero, List.set_cons_succ])
            refine takeH (i := 36) 49 ?ve36 rfl (by rfl) (by kernel_rfl) (by kernel_rfl) (by kernel_rfl) (fun _ _ _ h => h) (Or.inl ⟨by rfl, ?hye36⟩) (by assumption) ?reste36
            case hye36 => (intro w hSw; (try dsimp only at hSw); go_simp; try (with_reducible rfl))
            (try simp only [List.setIfInBounds_toArray, List.set_cons_zero, List.set_cons_succ])
            refine takeH (i := 37) 50 ?ve37 rfl (by rfl) (by kernel_rfl) (by kernel_rfl) (by kernel_rfl) (fun _ _ _ h => h) (Or.inl ⟨by rfl, ?hye37⟩) (by assumption) ?reste37
            case hye37 => (intro w hSw; (try dsimp only at hSw); go_simp; try (with_reducible rfl))
            (try simp only [List.setIfInBounds_toArray, List.set_cons_zero, List.set_cons_succ])
            refine takeH (i := 38) 51 ?ve38 rfl (by rfl) (by kernel_rfl) (by kernel_rfl) (by kernel_rfl) (fun _ _ _ h => h) (Or.inl ⟨by rfl, ?hye38⟩) (by assumption) ?reste38
            case hye38 => (intro w hSw; (try dsimp only at hSw); go_simp; try (with_reducible rfl))
            (try simp only [List.setIfInBounds_toArray, List.set_cons_zero, List.set_cons_succ])
            refine takeH (i := 39) 52 ?ve39 rfl (by rfl) (by kernel_rfl) (by kernel_rfl) (by kernel_rfl) (fun _ _ _ h => h) (Or.inl ⟨by rfl, ?hye39⟩) (by assumption) ?reste39
            case hye39 => (intro w hSw; (try dsimp only at hSw); go_simp; try (with_reducible rfl))
            (try simp only [List.setIfInBounds_toArray, List.set_cons_zero, List.set_cons_succ])
            refine takeH (i := 40) 53 ?ve40 rfl (by rfl) (by kernel_rfl) (by kernel_rfl) (by kernel_rfl) (fun _ _ _ h => h) (Or.inl ⟨by rfl, ?hye40⟩) (by assumption) ?reste40
            case hye40 => (intro w hSw; (try dsimp only at hSw); go_simp; try (with_reducible rfl))
            (try simp only [List.setIfInBounds_toArray, List.set_cons_zero, List.set_cons_succ])
            refine takeH (i := 41) 54 ?ve41 rfl (by rfl) (by kernel_rfl) (by kernel_rfl) (by kernel_rfl) (fun _ _ _ h => h) (Or.inl ⟨by rfl, ?hye41⟩) (by assumption) ?reste41
            case hye41 => (intro w hSw; (try dsimp only at hSw); go_simp; try (with_reducible rfl))
            (try simp only [List.setIfInBounds_toArray, List.set_cons_zero, List.set_cons_succ])
            refine takeH (i := 42) 55 ?ve42 rfl (by rfl) (by kernel_rfl) (by kernel_rfl) (by kernel_rfl) (fun _ _ _ h => h) (Or.inl ⟨by rfl, ?hye42⟩) (by assumption) ?reste42
            case hye42 => (intro w hSw; (try dsimp only at hSw); go_simp; try (with_reducible rfl))
            (try simp only [List.setIfInBounds_toArray, List.set_cons_zero, List.set_cons_succ])
            refine takeH (i := 43) 56 ?ve43 rfl (by rfl) (by kernel_rfl) (by kernel_rfl) (by kernel_rfl) (fun _ _ _ h => h) (Or.inl ⟨by rfl, ?hye43⟩) (by assumption) ?reste43
            case hye43 => (intro w hSw; (try dsimp only at hSw); go_simp; try (with_reducible rfl))
            (try simp only [List.setIfInBounds_toArray, List.set_cons_zero, List.set_cons_succ])
            refine takeH (i := 44) 57 ?ve44 rfl (by rfl) (by kernel_rfl) (by kernel_rfl) (by kernel_rfl) (fun _ _ _ h => h) (Or.inl ⟨by rfl, ?hye44⟩) (by assumption) ?reste44
            case hye44 => (intro w hSw; (try dsimp only at hSw); go_simp; try (with_reducible rfl))
            (try simp only [List.setIfInBounds_toArray, List.set_cons_zero, List.set_cons_succ])
            refine takeH (i := 45) 58 ?ve45 rfl (by rfl) (by kernel_rfl) (by kernel_rfl) (by kernel_rfl) (fun _ _ _ h => h) (Or.inl ⟨by rfl, ?hye45⟩) (by assumption) ?reste45
            case hye45 => (intro w hSw; (try dsimp only at hSw); go_simp; try (with_reducible rfl))
            (try simp only [List.setIfInBounds_toArray, List.set_cons_zero, List.set_cons_succ])
            refine takeH (i := 46) 59 ?ve46 rfl (by rfl) (by kernel_rfl) (by kernel_rfl) (by kernel_rfl) (fun _ _ _ h => h) (Or.inl ⟨by rfl, ?hye46⟩) (by assumption) ?reste46
            case hye46 => (intro w hSw; (try dsimp only at hSw); go_simp; try (with_reducible rfl))
            (try simp only [List.setIfInBounds_toArray, List.set_cons_zero, List.set_cons_succ])
            refine takeH (i := 47) 60 ?ve47 rfl (by rfl) (by kernel_rfl) (by kernel_rfl) (by kernel_rfl) (fun _ _ _ h => h) (Or.inl ⟨by rfl, ?hye47⟩) (by assumption) ?reste47
            case hye47 => (intro w hSw; (try dsimp only at hSw); go_simp; try (with_reducible rfl))
            (try simp only [List.setIfInBounds_toArray, List.set_cons_zero, List.set_cons_succ])
            refine takeH (i := 48) 61 ?ve48 rfl (by rfl) (by kernel_rfl) (by kernel_rfl) (by kernel_rfl) (fun _ _ _ h => h) (Or.inl ⟨by rfl, ?hye48⟩) (by assumption) ?reste48
            case hye48 => (intro w hSw; (try dsimp only at hSw); go_simp; try (with_reducible rfl))
            (try simp only [List.setIfInBounds_toArray, List.set_cons_zero, List.set_cons_succ])
            refine takeH (i := 49) 62 ?ve49 rfl (by rfl) (by kernel_rfl) (by kernel_rfl) (by kernel_rfl) (fun _ _ _ h => h) (Or.inl ⟨by rfl, ?hye49⟩) (by assumption) ?reste49
            case hye49 => (intro w hSw; (try dsimp only at hSw); go_simp; try (with_reducible rfl))
            (try simp only [List.setIfInBounds_toArray, List.set_cons_zero, List.set_cons_succ])
            refine takeH (i := 50) 63 ?ve50 rfl (by rfl) (by kernel_rfl) (by kernel_rfl) (by kernel_rfl) (fun _ _ _ h => h) (Or.inl ⟨by rfl, ?hye50⟩) (by assumption) ?reste50
            case hye50 => (intro w hSw; (try dsimp only at hSw); go_simp; try (with_reducible rfl))
            (try simp only [List.setIfInBounds_toArray, List.set_cons_zero, List.set_cons_succ])
            refine wpAnyH_ready (rs := [51]) (by kernel_rfl) (by simp) (AllReadyH.cons rfl (fun Kq hKq => ?_) AllReadyH.nil)
            go_simp
            go_at_call 20
            refine (valid_any rem HZk.out.1 wo.drew ((HT.out.below HB.out).drew)).mono ?_
            rintro e' w1 ⟨b1, rfl, hb1⟩
            go_wp2_with fail
            refine hKq.out _ _ ⟨cell_below (w := wo.drew) h0 hb1, cell_below (w := wo.drew) h1 hb1, cell_below (w := wo.drew) h2 hb1, cell_below (w := wo.drew) h3 hb1⟩ (fun hHeld => ?_)
            clear hKq Kq
            (try simp only [List.setIfInBounds_toArray, List.set_cons_zero, List.set_cons_succ])
            refine takeH (i := 52) 65 ?ve52 rfl (by rfl) (by kernel_rfl) (by kernel_rfl) (by kernel_rfl) (fun _ _ _ h => h) (Or.inl ⟨by rfl, ?hye52⟩) (by assumption) ?reste52
            case hye52 => (intro w hSw; (try dsimp only at hSw); go_simp; try (with_reducible rfl))
            (try simp only [List.setIfInBounds_toArray, List.set_cons_zero, List.set_cons_succ])
            refine takeH (i := 53) 66 ?ve53 rfl (by rfl) (by kernel_rfl) (by kernel_rfl) (by kernel_rfl) (fun _ _ _ h => h) (Or.inl ⟨by rfl, ?hye53⟩) (by assumption) ?reste53
            case hye53 => (intro w hSw; (try dsimp only at hSw); go_simp; try (with_reducible rfl))
            (try simp only [List.setIfInBounds_toArray, List.set_cons_zero, List.set_cons_succ])
            refine wpAnyH_done (by kernel_rfl) ?_ _
            clear hd1 hd2
            have HB1 := Lib.hid (show Below wo.heap.size wo w1 from ⟨hb1.os, hb1.tape, hb1.output, hb1.size, hb1.block⟩)
            clear hb1 hHeld h0 h1 h2 h3
            cases b1
            · go_wp2
              go_ret
              exact ⟨false, rfl, (fun h => by cases h), HB.out.trans (HB1.out.mono hsz)⟩
            · try simp only [Bool.not_true, Bool.not_false]
              go_wp2
              go_loopw [4] (fun i wr => ∃ j : Nat, j ≤ ns.length ∧ i = .int .i64 j ∧ (∀ (m : Nat) (n : Int), m < j → hs[m]? = some n → 0 ≤ n ∧ n ≤ 2) ∧ Below wo.heap.size wo wr) (fun i _ => ns.length - (intOf i).toNat)
              case atStart => exact ⟨0, by omega, rfl, fun m n h => absurd h (by omega), HB1.out⟩
              case round =>
                obtain ⟨j, hj, rfl, hall2, hb2⟩ := hrel
                obtain ⟨wi, rfl⟩ : ∃ wi : World, wi = wr := ⟨_, rfl⟩
                have HA2 := Lib.hid hall2
                have HB2 := Lib.hid hb2
                have hs2 := hb2.size
                have y2 := cell_below H2.out hb2
                have y3 := cell_below H3.out hb2
                clear hall2
                by_cases hlj : j < ns.length
                · obtain ⟨ad2, n, rfl, -, hn, hcc⟩ := HR2.out.int_ (k := j) (by have := HL.out; omega)
                  obtain ⟨ad1, t, rfl, -, ht, hct⟩ := HR1.out.line hlj
                  have e2 := cell_below hcc hb2
                  have e1 := cell_below hct hb2
                  have HC1 := Lib.hid hct
                  have HTS := Lib.hid (HZk.out.2 t (List.mem_of_getElem? ht))
                  have HN := Lib.hid hn
                  clear hn hcc hct ht
                  by_cases hn3 : n = 0 ∨ n = 1 ∨ n = 2
                  · have HN2 : Hid (∀ (m : Nat) (n : Int), m < j + 1 → hs[m]? = some n → 0 ≤ n ∧ n ≤ 2) := fun m n' hm h => by
                      by_cases hmj : m = j
                      · subst hmj
                        rw [HN.out] at h
                        injection h with h
                        omega
                      · exact HA2.out m n' (by omega) h
                    rcases hn3 with rfl | rfl | rfl
                    all_goals
                      go_wp2_with fail
                      go_at_call 20
                      refine (valid_any t HTS.out wi ((HT.out.below HB.out).below HB2.out)).mono ?_
                      rintro e' w3 ⟨b3, rfl, hb3⟩
                      have HB3 := Lib.hid (HB2.out.trans (hb3.mono hs2))
                      clear hb3 y2 y3 e1 e2
                      cases b3
                      · go_wp2
                        go_ret
                        exact ⟨false, rfl, (fun h => by cases h), HB.out.trans (HB3.out.mono hsz)⟩
                      · go_wp2
                        go_loopw [6] (fun i wr => ∃ m : Nat, m ≤ j ∧ i = .int .i64 m ∧ Below wo.heap.size wo wr) (fun i _ => j - (intOf i).toNat)
                        case atStart => exact ⟨0, by omega, rfl, HB3.out⟩
                        case round =>
                          obtain ⟨m, hm, rfl, hb4⟩ := hrel
                          obtain ⟨w4, rfl⟩ : ∃ w4 : World, w4 = wr := ⟨_, rfl⟩
                          have HB4 := Lib.hid hb4
                          by_cases hmj : m < j
                          · obtain ⟨ad5, t2, had, -, -, hct2⟩ := HR1.out.line (show m < ns.length by omega)
                            injection had with had
                            subst had
                            have x2 := cell_below H2.out hb4
                            have x1 := cell_below HC1.out hb4
                            have x5 := cell_below hct2 hb4
                            have q1 : (0 : Int) ≤ (m : Int) := by omega
                            have q2 : (m : Int) < (ns.length : Int) := by omega
                            have q3 : (0 : Int) ≤ (j : Int) := by omega
                            have q4 : (j : Int) < (ns.length : Int) := by omega
                            clear hct2 hb4
                            cases heq : (t2.toList == t.toList)
                            · go_wp2
                              go_quiet (fail)
                              go_wp2
                              go_roundw
                              case rel => exact ⟨m + 1, by omega, by go_num, below_drewN HB4.out _⟩
                              case measure => simp [intOf]; omega
                            · go_wp2
                              go_quiet (fail)
                              go_wp2
                              go_ret
                              exact ⟨false, rfl, (fun h => by cases h), below_drewN (HB.out.trans (HB4.out.mono hsz)) _⟩
                          · go_wp2
                            go_roundw
                            case rel => exact ⟨j + 1, by omega, by go_num, HN2.out, HB4.out⟩
                            case measure => simp [intOf]; omega
                  · have d0 : (n != 0) = true := by simp; omega
                    have d1 : (n != 1) = true := by simp; omega
                    have d2 : (n != 2) = true := by simp; omega
                    clear hn3
                    go_wp2
                    go_ret
                    exact ⟨false, rfl, (fun h => by cases h), HB.out.trans (HB2.out.mono hsz)⟩
                · obtain rfl : j = ns.length := by omega
                  have HO : Hid (∀ (j : Nat) (e : St), j < k + 1 → E[j]? = some e → Okh e) := fun j e hj h => by
                    by_cases hjk : j = k
                    · subst hjk
                      rw [HEk.out] at h
                      injection h with h
                      subst h
                      refine ⟨HL.out, fun x hx => ?_⟩
                      obtain ⟨m, hm, e⟩ := List.mem_iff_getElem.1 hx
                      have hm' : m < hs.length := hm
                      exact HA2.out m x (by have := HL.out; omega) (by rw [← e]; exact List.getElem?_eq_getElem hm)
                    · exact HA.out j e (by omega) h
                  go_wp2
                  go_roundw
                  case rel => exact ⟨k + 1, by omega, by go_num, HO.out, HB.out.trans (HB2.out.mono hsz)⟩
                  case measure => simp [intOf]; omega
          · have hd1 : ¬ rem.toList = [] := fun e => hrem (by
              rw [Lib.toList_data] at e
              obtain ⟨⟨l⟩⟩ := rem
              have e' : l = [] := e
              rw [e'])
            have hd2 : rem.toList.isEmpty = false := by simpa using hd1
            clear hd hrem
            go_wp2_with fail
            refine wp_region_held_drew (S := (fun w' => w'.cell? (ad.add (k * 4)) = some (.bool false) ∧ w'.cell? ⟨(ad.add (k * 4)).block, (ad.add (k * 4)).off + 1, none⟩ = some (.string rem) ∧ w'.cell? ⟨(ad.add (k * 4)).block, (ad.add (k * 4)).off + 2, none⟩ = some (.slice A' ns.length c') ∧ w'.cell? ⟨(ad.add (k * 4)).block, (ad.add (k * 4)).off + 3, none⟩ = some (.slice A2 ns.length c2))) (by kernel_rfl) ⟨h0, h1, h2, h3⟩ (fun hHeld => ?_)
            refine takeH (i := 0) 13 ?vd0 rfl (by rfl) (by kernel_rfl) (by kernel_rfl) (by kernel_rfl) (fun _ _ _ h => h) (Or.inl ⟨by rfl, ?hyd0⟩) (by assumption) ?restd0
            case hyd0 => (intro w hSw; (try dsimp only at hSw); go_simp; try (with_reducible rfl))
            (try simp only [List.setIfInBounds_toArray, List.set_cons_zero, List.set_cons_succ])
            refine takeH (i := 1) 14 ?vd1 rfl (by rfl) (by kernel_rfl) (by kernel_rfl) (by kernel_rfl) (fun _ _ _ h => h) (Or.inl ⟨by rfl, ?hyd1⟩) (by assumption) ?restd1
            case hyd1 => (intro w hSw; (try dsimp only at hSw); go_simp; try (with_reducible rfl))
            (try simp only [List.setIfInBounds_toArray, List.set_cons_zero, List.set_cons_succ])
            refine takeH (i := 2) 15 ?vd2 rfl (by rfl) (by kernel_rfl) (by kernel_rfl) (by kernel_rfl) (fun _ _ _ h => h) (Or.inl ⟨by rfl, ?hyd2⟩) (by assumption) ?restd2
            case hyd2 => (intro w hSw; (try dsimp only at hSw); go_simp; try (with_reducible rfl))
            (try simp only [List.setIfInBounds_toArray, List.set_cons_zero, List.set_cons_succ])
            refine takeH (i := 3) 16 ?vd3 rfl (by rfl) (by kernel_rfl) (by kernel_rfl) (by kernel_rfl) (fun _ _ _ h => h) (Or.inl ⟨by rfl, ?hyd3⟩) (by assumption) ?restd3
            case hyd3 => (intro w hSw; (try dsimp only at hSw); go_simp; try (with_reducible rfl))
            (try simp only [List.setIfInBounds_toArray, List.set_cons_zero, List.set_cons_succ])
            refine takeH (i := 4) 17 ?vd4 rfl (by rfl) (by kernel_rfl) (by kernel_rfl) (by kernel_rfl) (fun _ _ _ h => h) (Or.inl ⟨by rfl, ?hyd4⟩) (by assumption) ?restd4
            case hyd4 => (intro w hSw; (try dsimp only at hSw); go_simp; try (with_reducible rfl))
            (try simp only [List.setIfInBounds_toArray, List.set_cons_zero, List.set_cons_succ])
            refine takeH (i := 5) 18 ?vd5 rfl (by rfl) (by kernel_rfl) (by kernel_rfl) (by kernel_rfl) (fun _ _ _ h => h) (Or.inl ⟨by rfl, ?hyd5⟩) (by assumption) ?restd5
            case hyd5 => (intro w hSw; (try dsimp only at hSw); go_simp; try (with_reducible rfl))
            (try simp only [List.setIfInBounds_toArray, List.set_cons_zero, List.set_cons_succ])
            refine takeH (i := 6) 19 ?vd6 rfl (by rfl) (by kernel_rfl) (by kernel_rfl) (by kernel_rfl) (fun _ _ _ h => h) (Or.inl ⟨by rfl, ?hyd6⟩) (by assumption) ?restd6
            case hyd6 => (intro w hSw; (try dsimp only at hSw); go_simp; try (with_reducible rfl))
            (try simp only [List.setIfInBounds_toArray, List.set_cons_zero, List.set_cons_succ])
            refine takeH (i := 7) 20 ?vd7 rfl (by rfl) (by kernel_rfl) (by kernel_rfl) (by kernel_rfl) (fun _ _ _ h => h) (Or.inl ⟨by rfl, ?hyd7⟩) (by assumption) ?restd7
            case hyd7 => (intro w hSw; (try dsimp only at hSw); go_simp; try (with_reducible rfl))
            (try simp only [List.setIfInBounds_toArray, List.set_cons_zero, List.set_cons_succ])
            refine takeH (i := 8) 21 ?vd8 rfl (by rfl) (by kernel_rfl) (by kernel_rfl) (by kernel_rfl) (fun _ _ _ h => h) (Or.inl ⟨by rfl, ?hyd8⟩) (by assumption) ?restd8
            case hyd8 => (intro w hSw; (try dsimp only at hSw); go_simp; try (with_reducible rfl))
            (try simp only [List.setIfInBounds_toArray, List.set_cons_zero, List.set_cons_succ])
            refine takeH (i := 9) 22 ?vd9 rfl (by rfl) (by kernel_rfl) (by kernel_rfl) (by kernel_rfl) (fun _ _ _ h => h) (Or.inl ⟨by rfl, ?hyd9⟩) (by assumption) ?restd9
            case hyd9 => (intro w hSw; (try dsimp only at hSw); go_simp; try (with_reducible rfl))
            (try simp only [List.setIfInBounds_toArray, List.set_cons_zero, List.set_cons_succ])
            refine takeH (i := 10) 23 ?vd10 rfl (by rfl) (by kernel_rfl) (by kernel_rfl) (by kernel_rfl) (fun _ _ _ h => h) (Or.inl ⟨by rfl, ?hyd10⟩) (by assumption) ?restd10
            case hyd10 => (intro w hSw; (try dsimp only at hSw); go_simp; try (with_reducible rfl))
            (try simp only [List.setIfInBounds_toArray, List.set_cons_zero, List.set_cons_succ])
            refine takeH (i := 11) 24 ?vd11 rfl (by rfl) (by kernel_rfl) (by kernel_rfl) (by kernel_rfl) (fun _ _ _ h => h) (Or.inl ⟨by rfl, ?hyd11⟩) (by assumption) ?restd11
            case hyd11 => (intro w hSw; (try dsimp only at hSw); go_simp; try (with_reducible rfl))
            (try simp only [List.setIfInBounds_toArray, List.set_cons_zero, List.set_cons_succ])
            refine takeH (i := 12) 25 ?vd12 rfl (by rfl) (by kernel_rfl) (by kernel_rfl) (by kernel_rfl) (fun _ _ _ h => h) (Or.inl ⟨by rfl, ?hyd12⟩) (by assumption) ?restd12
            case hyd12 => (intro w hSw; (try dsimp only at hSw); go_simp; try (with_reducible rfl))
            (try simp only [List.setIfInBounds_toArray, List.set_cons_zero, List.set_cons_succ])
            refine takeH (i := 13) 26 ?vd13 rfl (by rfl) (by kernel_rfl) (by kernel_rfl) (by kernel_rfl) (fun _ _ _ h => h) (Or.inl ⟨by rfl, ?hyd13⟩) (by assumption) ?restd13
            case hyd13 => (intro w hSw; (try dsimp only at hSw); go_simp; try (with_reducible rfl))
            (try simp only [List.setIfInBounds_toArray, List.set_cons_zero, List.set_cons_succ])
            refine takeH (i := 14) 27 ?vd14 rfl (by rfl) (by kernel_rfl) (by kernel_rfl) (by kernel_rfl) (fun _ _ _ h => h) (Or.inl ⟨by rfl, ?hyd14⟩) (by assumption) ?restd14
            case hyd14 => (intro w hSw; (try dsimp only at hSw); go_simp; try (with_reducible rfl))
            (try simp only [List.setIfInBounds_toArray, List.set_cons_zero, List.set_cons_succ])
            refine takeH (i := 15) 28 ?vd15 rfl (by rfl) (by kernel_rfl) (by kernel_rfl) (by kernel_rfl) (fun _ _ _ h => h) (Or.inl ⟨by rfl, ?hyd15⟩) (by assumption) ?restd15
            case hyd15 => (intro w hSw; (try dsimp only at hSw); go_simp; try (with_reducible rfl))
            (try simp only [List.setIfInBounds_toArray, List.set_cons_zero, List.set_cons_succ])
            refine takeH (i := 16) 29 ?vd16 rfl (by rfl) (by kernel_rfl) (by kernel_rfl) (by kernel_rfl) (fun _ _ _ h => h) (Or.inl ⟨by rfl, ?hyd16⟩) (by assumption) ?restd16
            case hyd16 => (intro w hSw; (try dsimp only at hSw); go_simp; try (with_reducible rfl))
            (try simp only [List.setIfInBounds_toArray, List.set_cons_zero, List.set_cons_succ])
            refine takeH (i := 17) 30 ?vd17 rfl (by rfl) (by kernel_rfl) (by kernel_rfl) (by kernel_rfl) (fun _ _ _ h => h) (Or.inl ⟨by rfl, ?hyd17⟩) (by assumption) ?restd17
            case hyd17 => (intro w hSw; (try dsimp only at hSw); go_simp; try (with_reducible rfl))
            (try simp only [List.setIfInBounds_toArray, List.set_cons_zero, List.set_cons_succ])
            refine takeH (i := 18) 31 ?vd18 rfl (by rfl) (by kernel_rfl) (by kernel_rfl) (by kernel_rfl) (fun _ _ _ h => h) (Or.inl ⟨by rfl, ?hyd18⟩) (by assumption) ?restd18
            case hyd18 => (intro w hSw; (try dsimp only at hSw); go_simp; try (with_reducible rfl))
            (try simp only [List.setIfInBounds_toArray, List.set_cons_zero, List.set_cons_succ])
            refine takeH (i := 19) 32 ?vd19 rfl (by rfl) (by kernel_rfl) (by kernel_rfl) (by kernel_rfl) (fun _ _ _ h => h) (Or.inl ⟨by rfl, ?hyd19⟩) (by assumption) ?restd19
            case hyd19 => (intro w hSw; (try dsimp only at hSw); go_simp; try (with_reducible rfl))
            (try simp only [List.setIfInBounds_toArray, List.set_cons_zero, List.set_cons_succ])
            refine takeH (i := 20) 33 undef rfl (by rfl) (by kernel_rfl) (by kernel_rfl) (by kernel_rfl) (fun _ _ _ h => h) (Or.inr ⟨by rfl, rfl⟩) (by assumption) ?_
            (try simp only [List.setIfInBounds_toArray, List.set_cons_zero, List.set_cons_succ])
            refine takeH (i := 21) 34 undef rfl (by rfl) (by kernel_rfl) (by kernel_rfl) (by kernel_rfl) (fun _ _ _ h => h) (Or.inr ⟨by rfl, rfl⟩) (by assumption) ?_
            (try simp only [List.setIfInBounds_toArray, List.set_cons_zero, List.set_cons_succ])
            refine takeH (i := 22) 35 undef rfl (by rfl) (by kernel_rfl) (by kernel_rfl) (by kernel_rfl) (fun _ _ _ h => h) (Or.inr ⟨by rfl, rfl⟩) (by assumption) ?_
            (try simp only [List.setIfInBounds_toArray, List.set_cons_zero, List.set_cons_succ])
            refine takeH (i := 23) 36 undef rfl (by rfl) (by kernel_rfl) (by kernel_rfl) (by kernel_rfl) (fun _ _ _ h => h) (Or.inr ⟨by rfl, rfl⟩) (by assumption) ?_
            (try simp only [List.setIfInBounds_toArray, List.set_cons_zero, List.set_cons_succ])
            refine takeH (i := 24) 37 undef rfl (by rfl) (by kernel_rfl) (by kernel_rfl) (by kernel_rfl) (fun _ _ _ h => h) (Or.inr ⟨by rfl, rfl⟩) (by assumption) ?_
            (try simp only [List.setIfInBounds_toArray, List.set_cons_zero, List.set_cons_succ])
            refine takeH (i := 25) 38 undef rfl (by rfl) (by kernel_rfl) (by kernel_rfl) (by kernel_rfl) (fun _ _ _ h => h) (Or.inr ⟨by rfl, rfl⟩) (by assumption) ?_
            (try simp only [List.setIfInBounds_toArray, List.set_cons_zero, List.set_cons_succ])
            refine takeH (i := 26) 39 undef rfl (by rfl) (by kernel_rfl) (by kernel_rfl) (by kernel_rfl) (fun _ _ _ h => h) (Or.inr ⟨by rfl, rfl⟩) (by assumption) ?_
            (try simp only [List.setIfInBounds_toArray, List.set_cons_zero, List.set_cons_succ])
            refine takeH (i := 27) 40 ?vd27 rfl (by rfl) (by kernel_rfl) (by kernel_rfl) (by kernel_rfl) (fun _ _ _ h => h) (Or.inl ⟨by rfl, ?hyd27⟩) (by assumption) ?restd27
            case hyd27 => (intro w hSw; (try dsimp only at hSw); go_simp; try (with_reducible rfl))
            (try simp only [List.setIfInBounds_toArray, List.set_cons_zero, List.set_cons_succ])
            refine takeH (i := 28) 41 ?vd28 rfl (by rfl) (by kernel_rfl) (by kernel_rfl) (by kernel_rfl) (fun _ _ _ h => h) (Or.inl ⟨by rfl, ?hyd28⟩) (by assumption) ?restd28
            case hyd28 => (intro w hSw; (try dsimp only at hSw); go_simp; try (with_reducible rfl))
            (try simp only [List.setIfInBounds_toArray, List.set_cons_zero, List.set_cons_succ])
            refine takeH (i := 29) 42 ?vd29 rfl (by rfl) (by kernel_rfl) (by kernel_rfl) (by kernel_rfl) (fun _ _ _ h => h) (Or.inl ⟨by rfl, ?hyd29⟩) (by assumption) ?restd29
            case hyd29 => (intro w hSw; (try dsimp only at hSw); go_simp; try (with_reducible rfl))
            (try simp only [List.setIfInBounds_toArray, List.set_cons_zero, List.set_cons_succ])
            refine takeH (i := 30) 43 ?vd30 rfl (by rfl) (by kernel_rfl) (by kernel_rfl) (by kernel_rfl) (fun _ _ _ h => h) (Or.inl ⟨by rfl, ?hyd30⟩) (by assumption) ?restd30
            case hyd30 => (intro w hSw; (try dsimp only at hSw); go_simp; try (with_reducible rfl))
            (try simp only [List.setIfInBounds_toArray, List.set_cons_zero, List.set_cons_succ])
            refine takeH (i := 31) 44 ?vd31 rfl (by rfl) (by kernel_rfl) (by kernel_rfl) (by kernel_rfl) (fun _ _ _ h => h) (Or.inl ⟨by rfl, ?hyd31⟩) (by assumption) ?restd31
            case hyd31 => (intro w hSw; (try dsimp only at hSw); go_simp; try (with_reducible rfl))
            (try simp only [List.setIfInBounds_toArray, List.set_cons_zero, List.set_cons_succ])
            refine takeH (i := 32) 45 ?vd32 rfl (by rfl) (by kernel_rfl) (by kernel_rfl) (by kernel_rfl) (fun _ _ _ h => h) (Or.inl ⟨by rfl, ?hyd32⟩) (by assumption) ?restd32
            case hyd32 => (intro w hSw; (try dsimp only at hSw); go_simp; try (with_reducible rfl))
            (try simp only [List.setIfInBounds_toArray, List.set_cons_zero, List.set_cons_succ])
            refine takeH (i := 33) 46 ?vd33 rfl (by rfl) (by kernel_rfl) (by kernel_rfl) (by kernel_rfl) (fun _ _ _ h => h) (Or.inl ⟨by rfl, ?hyd33⟩) (by assumption) ?restd33
            case hyd33 => (intro w hSw; (try dsimp only at hSw); go_simp; try (with_reducible rfl))
            (try simp only [List.setIfInBounds_toArray, List.set_cons_zero, List.set_cons_succ])
            refine takeH (i := 34) 47 ?vd34 rfl (by rfl) (by kernel_rfl) (by kernel_rfl) (by kernel_rfl) (fun _ _ _ h => h) (Or.inl ⟨by rfl, ?hyd34⟩) (by assumption) ?restd34
            case hyd34 => (intro w hSw; (try dsimp only at hSw); go_simp; try (with_reducible rfl))
            (try simp only [List.setIfInBounds_toArray, List.set_cons_zero, List.set_cons_succ])
            refine takeH (i := 35) 48 ?vd35 rfl (by rfl) (by kernel_rfl) (by kernel_rfl) (by kernel_rfl) (fun _ _ _ h => h) (Or.inl ⟨by rfl, ?hyd35⟩) (by assumption) ?restd35
            case hyd35 => (intro w hSw; (try dsimp only at hSw); go_simp; try (with_reducible rfl))
            (try simp only [List.setIfInBounds_toArray, List.set_cons_zero, List.set_cons_succ])
            refine takeH (i := 36) 49 ?vd36 rfl (by rfl) (by kernel_rfl) (by kernel_rfl) (by kernel_rfl) (fun _ _ _ h => h) (Or.inl ⟨by rfl, ?hyd36⟩) (by assumption) ?restd36
            case hyd36 => (intro w hSw; (try dsimp only at hSw); go_simp; try (with_reducible rfl))
            (try simp only [List.setIfInBounds_toArray, List.set_cons_zero, List.set_cons_succ])
            refine takeH (i := 37) 50 ?vd37 rfl (by rfl) (by kernel_rfl) (by kernel_rfl) (by kernel_rfl) (fun _ _ _ h => h) (Or.inl ⟨by rfl, ?hyd37⟩) (by assumption) ?restd37
            case hyd37 => (intro w hSw; (try dsimp only at hSw); go_simp; try (with_reducible rfl))
            (try simp only [List.setIfInBounds_toArray, List.set_cons_zero, List.set_cons_succ])
            refine takeH (i := 38) 51 ?vd38 rfl (by rfl) (by kernel_rfl) (by kernel_rfl) (by kernel_rfl) (fun _ _ _ h => h) (Or.inl ⟨by rfl, ?hyd38⟩) (by assumption) ?restd38
            case hyd38 => (intro w hSw; (try dsimp only at hSw); go_simp; try (with_reducible rfl))
            (try simp only [List.setIfInBounds_toArray, List.set_cons_zero, List.set_cons_succ])
            refine takeH (i := 39) 52 ?vd39 rfl (by rfl) (by kernel_rfl) (by kernel_rfl) (by kernel_rfl) (fun _ _ _ h => h) (Or.inl ⟨by rfl, ?hyd39⟩) (by assumption) ?restd39
            case hyd39 => (intro w hSw; (try dsimp only at hSw); go_simp; try (with_reducible rfl))
            (try simp only [List.setIfInBounds_toArray, List.set_cons_zero, List.set_cons_succ])
            refine takeH (i := 40) 53 ?vd40 rfl (by rfl) (by kernel_rfl) (by kernel_rfl) (by kernel_rfl) (fun _ _ _ h => h) (Or.inl ⟨by rfl, ?hyd40⟩) (by assumption) ?restd40
            case hyd40 => (intro w hSw; (try dsimp only at hSw); go_simp; try (with_reducible rfl))
            (try simp only [List.setIfInBounds_toArray, List.set_cons_zero, List.set_cons_succ])
            refine takeH (i := 41) 54 ?vd41 rfl (by rfl) (by kernel_rfl) (by kernel_rfl) (by kernel_rfl) (fun _ _ _ h => h) (Or.inl ⟨by rfl, ?hyd41⟩) (by assumption) ?restd41
            case hyd41 => (intro w hSw; (try dsimp only at hSw); go_simp; try (with_reducible rfl))
            (try simp only [List.setIfInBounds_toArray, List.set_cons_zero, List.set_cons_succ])
            refine takeH (i := 42) 55 ?vd42 rfl (by rfl) (by kernel_rfl) (by kernel_rfl) (by kernel_rfl) (fun _ _ _ h => h) (Or.inl ⟨by rfl, ?hyd42⟩) (by assumption) ?restd42
            case hyd42 => (intro w hSw; (try dsimp only at hSw); go_simp; try (with_reducible rfl))
            (try simp only [List.setIfInBounds_toArray, List.set_cons_zero, List.set_cons_succ])
            refine takeH (i := 43) 56 ?vd43 rfl (by rfl) (by kernel_rfl) (by kernel_rfl) (by kernel_rfl) (fun _ _ _ h => h) (Or.inl ⟨by rfl, ?hyd43⟩) (by assumption) ?restd43
            case hyd43 => (intro w hSw; (try dsimp only at hSw); go_simp; try (with_reducible rfl))
            (try simp only [List.setIfInBounds_toArray, List.set_cons_zero, List.set_cons_succ])
            refine takeH (i := 44) 57 ?vd44 rfl (by rfl) (by kernel_rfl) (by kernel_rfl) (by kernel_rfl) (fun _ _ _ h => h) (Or.inl ⟨by rfl, ?hyd44⟩) (by assumption) ?restd44
            case hyd44 => (intro w hSw; (try dsimp only at hSw); go_simp; try (with_reducible rfl))
            (try simp only [List.setIfInBounds_toArray, List.set_cons_zero, List.set_cons_succ])
            refine takeH (i := 45) 58 ?vd45 rfl (by rfl) (by kernel_rfl) (by kernel_rfl) (by kernel_rfl) (fun _ _ _ h => h) (Or.inl ⟨by rfl, ?hyd45⟩) (by assumption) ?restd45
            case hyd45 => (intro w hSw; (try dsimp only at hSw); go_simp; try (with_reducible rfl))
            (try simp only [List.setIfInBounds_toArray, List.set_cons_zero, List.set_cons_succ])
            refine takeH (i := 46) 59 undef rfl (by rfl) (by kernel_rfl) (by kernel_rfl) (by kernel_rfl) (fun _ _ _ h => h) (Or.inr ⟨by rfl, rfl⟩) (by assumption) ?_
            (try simp only [List.setIfInBounds_toArray, List.set_cons_zero, List.set_cons_succ])
            refine takeH (i := 47) 60 undef rfl (by rfl) (by kernel_rfl) (by kernel_rfl) (by kernel_rfl) (fun _ _ _ h => h) (Or.inr ⟨by rfl, rfl⟩) (by assumption) ?_
            (try simp only [List.setIfInBounds_toArray, List.set_cons_zero, List.set_cons_succ])
            refine takeH (i := 48) 61 undef rfl (by rfl) (by kernel_rfl) (by kernel_rfl) (by kernel_rfl) (fun _ _ _ h => h) (Or.inr ⟨by rfl, rfl⟩) (by assumption) ?_
            (try simp only [List.setIfInBounds_toArray, List.set_cons_zero, List.set_cons_succ])
            refine takeH (i := 49) 62 undef rfl (by rfl) (by kernel_rfl) (by kernel_rfl) (by kernel_rfl) (fun _ _ _ h => h) (Or.inr ⟨by rfl, rfl⟩) (by assumption) ?_
            (try simp only [List.setIfInBounds_toArray, List.set_cons_zero, List.set_cons_succ])
            refine takeH (i := 50) 63 undef rfl (by rfl) (by kernel_rfl) (by kernel_rfl) (by kernel_rfl) (fun _ _ _ h => h) (Or.inr ⟨by rfl, rfl⟩) (by assumption) ?_
            (try simp only [List.setIfInBounds_toArray, List.set_cons_zero, List.set_cons_succ])
            refine takeH (i := 51) 64 undef rfl (by rfl) (by kernel_rfl) (by kernel_rfl) (by kernel_rfl) (fun _ _ _ h => h) (Or.inr ⟨by rfl, rfl⟩) (by assumption) ?_
            (try simp only [List.setIfInBounds_toArray, List.set_cons_zero, List.set_cons_succ])
            refine takeH (i := 52) 65 undef rfl (by rfl) (by kernel_rfl) (by kernel_rfl) (by kernel_rfl) (fun _ _ _ h => h) (Or.inr ⟨by rfl, rfl⟩) (by assumption) ?_
            (try simp only [List.setIfInBounds_toArray, List.set_cons_zero, List.set_cons_succ])
            refine takeH (i := 53) 66 ?vd53 rfl (by rfl) (by kernel_rfl) (by kernel_rfl) (by kernel_rfl) (fun _ _ _ h => h) (Or.inl ⟨by rfl, ?hyd53⟩) (by assumption) ?restd53
            case hyd53 => (intro w hSw; (try dsimp only at hSw); go_simp; try (with_reducible rfl))
            (try simp only [List.setIfInBounds_toArray, List.set_cons_zero, List.set_cons_succ])
            refine wpAnyH_done (by kernel_rfl) ?_ _
            go_wp2
            go_ret
            exact ⟨false, rfl, (fun h => by cases h), HB.out.drew⟩
        · by_cases hn0 : ns.length = 0
          · have hd1 : decide ((0 : Int) < (ns.length : Int)) = false := decide_eq_false (by omega)
            have hd2 : decide (0 < ns.length) = false := decide_eq_false (by omega)
            have hd3 : ¬ 0 < ns.length := by omega
            clear hd hn0
            go_wp2_with fail
            refine wp_region_held_drew (S := (fun w' => w'.cell? (ad.add (k * 4)) = some (.bool true) ∧ w'.cell? ⟨(ad.add (k * 4)).block, (ad.add (k * 4)).off + 1, none⟩ = some (.string rem) ∧ w'.cell? ⟨(ad.add (k * 4)).block, (ad.add (k * 4)).off + 2, none⟩ = some (.slice A' ns.length c') ∧ w'.cell? ⟨(ad.add (k * 4)).block, (ad.add (k * 4)).off + 3, none⟩ = some (.slice A2 ns.length c2))) (by kernel_rfl) ⟨h0, h1, h2, h3⟩ (fun hHeld => ?_)
            refine takeH (i := 0) 13 ?vc0 rfl (by rfl) (by kernel_rfl) (by kernel_rfl) (by kernel_rfl) (fun _ _ _ h => h) (Or.inl ⟨by rfl, ?hyc0⟩) (by assumption) ?restc0
            case hyc0 => (intro w hSw; (try dsimp only at hSw); go_simp; try (with_reducible rfl))
            (try simp only [List.setIfInBounds_toArray, List.set_cons_zero, List.set_cons_succ])
            refine takeH (i := 1) 14 ?vc1 rfl (by rfl) (by kernel_rfl) (by kernel_rfl) (by kernel_rfl) (fun _ _ _ h => h) (Or.inl ⟨by rfl, ?hyc1⟩) (by assumption) ?restc1
            case hyc1 => (intro w hSw; (try dsimp only at hSw); go_simp; try (with_reducible rfl))
            (try simp only [List.setIfInBounds_toArray, List.set_cons_zero, List.set_cons_succ])
            refine takeH (i := 2) 15 ?vc2 rfl (by rfl) (by kernel_rfl) (by kernel_rfl) (by kernel_rfl) (fun _ _ _ h => h) (Or.inl ⟨by rfl, ?hyc2⟩) (by assumption) ?restc2
            case hyc2 => (intro w hSw; (try dsimp only at hSw); go_simp; try (with_reducible rfl))
            (try simp only [List.setIfInBounds_toArray, List.set_cons_zero, List.set_cons_succ])
            refine takeH (i := 3) 16 ?vc3 rfl (by rfl) (by kernel_rfl) (by kernel_rfl) (by kernel_rfl) (fun _ _ _ h => h) (Or.inl ⟨by rfl, ?hyc3⟩) (by assumption) ?restc3
            case hyc3 => (intro w hSw; (try dsimp only at hSw); go_simp; try (with_reducible rfl))
            (try simp only [List.setIfInBounds_toArray, List.set_cons_zero, List.set_cons_succ])
            refine takeH (i := 4) 17 ?vc4 rfl (by rfl) (by kernel_rfl) (by kernel_rfl) (by kernel_rfl) (fun _ _ _ h => h) (Or.inl ⟨by rfl, ?hyc4⟩) (by assumption) ?restc4
            case hyc4 => (intro w hSw; (try dsimp only at hSw); go_simp; try (with_reducible rfl))
            (try simp only [List.setIfInBounds_toArray, List.set_cons_zero, List.set_cons_succ])
            refine takeH (i := 5) 18 ?vc5 rfl (by rfl) (by kernel_rfl) (by kernel_rfl) (by kernel_rfl) (fun _ _ _ h => h) (Or.inl ⟨by rfl, ?hyc5⟩) (by assumption) ?restc5
            case hyc5 => (intro w hSw; (try dsimp only at hSw); go_simp; try (with_reducible rfl))
            (try simp only [List.setIfInBounds_toArray, List.set_cons_zero, List.set_cons_succ])
            refine takeH (i := 6) 19 ?vc6 rfl (by rfl) (by kernel_rfl) (by kernel_rfl) (by kernel_rfl) (fun _ _ _ h => h) (Or.inl ⟨by rfl, ?hyc6⟩) (by assumption) ?restc6
            case hyc6 => (intro w hSw; (try dsimp only at hSw); go_simp; try (with_reducible rfl))
            (try simp only [List.setIfInBounds_toArray, List.set_cons_zero, List.set_cons_succ])
            refine takeH (i := 7) 20 ?vc7 rfl (by rfl) (by kernel_rfl) (by kernel_rfl) (by kernel_rfl) (fun _ _ _ h => h) (Or.inl ⟨by rfl, ?hyc7⟩) (by assumption) ?restc7
            case hyc7 => (intro w hSw; (try dsimp only at hSw); go_simp; try (with_reducible rfl))
            (try simp only [List.setIfInBounds_toArray, List.set_cons_zero, List.set_cons_succ])
            refine takeH (i := 8) 21 ?vc8 rfl (by rfl) (by kernel_rfl) (by kernel_rfl) (by kernel_rfl) (fun _ _ _ h => h) (Or.inl ⟨by rfl, ?hyc8⟩) (by assumption) ?restc8
            case hyc8 => (intro w hSw; (try dsimp only at hSw); go_simp; try (with_reducible rfl))
            (try simp only [List.setIfInBounds_toArray, List.set_cons_zero, List.set_cons_succ])
            refine takeH (i := 9) 22 ?vc9 rfl (by rfl) (by kernel_rfl) (by kernel_rfl) (by kernel_rfl) (fun _ _ _ h => h) (Or.inl ⟨by rfl, ?hyc9⟩) (by assumption) ?restc9
            case hyc9 => (intro w hSw; (try dsimp only at hSw); go_simp; try (with_reducible rfl))
            (try simp only [List.setIfInBounds_toArray, List.set_cons_zero, List.set_cons_succ])
            refine takeH (i := 10) 23 ?vc10 rfl (by rfl) (by kernel_rfl) (by kernel_rfl) (by kernel_rfl) (fun _ _ _ h => h) (Or.inl ⟨by rfl, ?hyc10⟩) (by assumption) ?restc10
            case hyc10 => (intro w hSw; (try dsimp only at hSw); go_simp; try (with_reducible rfl))
            (try simp only [List.setIfInBounds_toArray, List.set_cons_zero, List.set_cons_succ])
            refine takeH (i := 11) 24 ?vc11 rfl (by rfl) (by kernel_rfl) (by kernel_rfl) (by kernel_rfl) (fun _ _ _ h => h) (Or.inl ⟨by rfl, ?hyc11⟩) (by assumption) ?restc11
            case hyc11 => (intro w hSw; (try dsimp only at hSw); go_simp; try (with_reducible rfl))
            (try simp only [List.setIfInBounds_toArray, List.set_cons_zero, List.set_cons_succ])
            refine takeH (i := 12) 25 ?vc12 rfl (by rfl) (by kernel_rfl) (by kernel_rfl) (by kernel_rfl) (fun _ _ _ h => h) (Or.inl ⟨by rfl, ?hyc12⟩) (by assumption) ?restc12
            case hyc12 => (intro w hSw; (try dsimp only at hSw); go_simp; try (with_reducible rfl))
            (try simp only [List.setIfInBounds_toArray, List.set_cons_zero, List.set_cons_succ])
            refine takeH (i := 13) 26 ?vc13 rfl (by rfl) (by kernel_rfl) (by kernel_rfl) (by kernel_rfl) (fun _ _ _ h => h) (Or.inl ⟨by rfl, ?hyc13⟩) (by assumption) ?restc13
            case hyc13 => (intro w hSw; (try dsimp only at hSw); go_simp; try (with_reducible rfl))
            (try simp only [List.setIfInBounds_toArray, List.set_cons_zero, List.set_cons_succ])
            refine takeH (i := 14) 27 ?vc14 rfl (by rfl) (by kernel_rfl) (by kernel_rfl) (by kernel_rfl) (fun _ _ _ h => h) (Or.inl ⟨by rfl, ?hyc14⟩) (by assumption) ?restc14
            case hyc14 => (intro w hSw; (try dsimp only at hSw); go_simp; try (with_reducible rfl))
            (try simp only [List.setIfInBounds_toArray, List.set_cons_zero, List.set_cons_succ])
            refine takeH (i := 15) 28 ?vc15 rfl (by rfl) (by kernel_rfl) (by kernel_rfl) (by kernel_rfl) (fun _ _ _ h => h) (Or.inl ⟨by rfl, ?hyc15⟩) (by assumption) ?restc15
            case hyc15 => (intro w hSw; (try dsimp only at hSw); go_simp; try (with_reducible rfl))
            (try simp only [List.setIfInBounds_toArray, List.set_cons_zero, List.set_cons_succ])
            refine takeH (i := 16) 29 ?vc16 rfl (by rfl) (by kernel_rfl) (by kernel_rfl) (by kernel_rfl) (fun _ _ _ h => h) (Or.inl ⟨by rfl, ?hyc16⟩) (by assumption) ?restc16
            case hyc16 => (intro w hSw; (try dsimp only at hSw); go_simp; try (with_reducible rfl))
            (try simp only [List.setIfInBounds_toArray, List.set_cons_zero, List.set_cons_succ])
            refine takeH (i := 17) 30 ?vc17 rfl (by rfl) (by kernel_rfl) (by kernel_rfl) (by kernel_rfl) (fun _ _ _ h => h) (Or.inl ⟨by rfl, ?hyc17⟩) (by assumption) ?restc17
            case hyc17 => (intro w hSw; (try dsimp only at hSw); go_simp; try (with_reducible rfl))
            (try simp only [List.setIfInBounds_toArray, List.set_cons_zero, List.set_cons_succ])
            refine takeH (i := 18) 31 ?vc18 rfl (by rfl) (by kernel_rfl) (by kernel_rfl) (by kernel_rfl) (fun _ _ _ h => h) (Or.inl ⟨by rfl, ?hyc18⟩) (by assumption) ?restc18
            case hyc18 => (intro w hSw; (try dsimp only at hSw); go_simp; try (with_reducible rfl))
            (try simp only [List.setIfInBounds_toArray, List.set_cons_zero, List.set_cons_succ])
            refine takeH (i := 19) 32 ?vc19 rfl (by rfl) (by kernel_rfl) (by kernel_rfl) (by kernel_rfl) (fun _ _ _ h => h) (Or.inl ⟨by rfl, ?hyc19⟩) (by assumption) ?restc19
            case hyc19 => (intro w hSw; (try dsimp only at hSw); go_simp; try (with_reducible rfl))
            (try simp only [List.setIfInBounds_toArray, List.set_cons_zero, List.set_cons_succ])
            refine takeH (i := 20) 33 ?vc20 rfl (by rfl) (by kernel_rfl) (by kernel_rfl) (by kernel_rfl) (fun _ _ _ h => h) (Or.inl ⟨by rfl, ?hyc20⟩) (by assumption) ?restc20
            case hyc20 => (intro w hSw; (try dsimp only at hSw); go_simp; try (with_reducible rfl))
            (try simp only [List.setIfInBounds_toArray, List.set_cons_zero, List.set_cons_succ])
            refine takeH (i := 21) 34 ?vc21 rfl (by rfl) (by kernel_rfl) (by kernel_rfl) (by kernel_rfl) (fun _ _ _ h => h) (Or.inl ⟨by rfl, ?hyc21⟩) (by assumption) ?restc21
            case hyc21 => (intro w hSw; (try dsimp only at hSw); go_simp; try (with_reducible rfl))
            (try simp only [List.setIfInBounds_toArray, List.set_cons_zero, List.set_cons_succ])
            refine takeH (i := 22) 35 ?vc22 rfl (by rfl) (by kernel_rfl) (by kernel_rfl) (by kernel_rfl) (fun _ _ _ h => h) (Or.inl ⟨by rfl, ?hyc22⟩) (by assumption) ?restc22
            case hyc22 => (intro w hSw; (try dsimp only at hSw); go_simp; try (with_reducible rfl))
            (try simp only [List.setIfInBounds_toArray, List.set_cons_zero, List.set_cons_succ])
            refine takeH (i := 23) 36 ?vc23 rfl (by rfl) (by kernel_rfl) (by kernel_rfl) (by kernel_rfl) (fun _ _ _ h => h) (Or.inl ⟨by rfl, ?hyc23⟩) (by assumption) ?restc23
            case hyc23 => (intro w hSw; (try dsimp only at hSw); go_simp; try (with_reducible rfl))
            (try simp only [List.setIfInBounds_toArray, List.set_cons_zero, List.set_cons_succ])
            refine takeH (i := 24) 37 ?vc24 rfl (by rfl) (by kernel_rfl) (by kernel_rfl) (by kernel_rfl) (fun _ _ _ h => h) (Or.inl ⟨by rfl, ?hyc24⟩) (by assumption) ?restc24
            case hyc24 => (intro w hSw; (try dsimp only at hSw); go_simp; try (with_reducible rfl))
            (try simp only [List.setIfInBounds_toArray, List.set_cons_zero, List.set_cons_succ])
            refine takeH (i := 25) 38 ?vc25 rfl (by rfl) (by kernel_rfl) (by kernel_rfl) (by kernel_rfl) (fun _ _ _ h => h) (Or.inl ⟨by rfl, ?hyc25⟩) (by assumption) ?restc25
            case hyc25 => (intro w hSw; (try dsimp only at hSw); go_simp; try (with_reducible rfl))
            (try simp only [List.setIfInBounds_toArray, List.set_cons_zero, List.set_cons_succ])
            refine takeH (i := 26) 39 ?vc26 rfl (by rfl) (by kernel_rfl) (by kernel_rfl) (by kernel_rfl) (fun _ _ _ h => h) (Or.inl ⟨by rfl, ?hyc26⟩) (by assumption) ?restc26
            case hyc26 => (intro w hSw; (try dsimp only at hSw); go_simp; try (with_reducible rfl))
            (try simp only [List.setIfInBounds_toArray, List.set_cons_zero, List.set_cons_succ])
            refine takeH (i := 27) 40 ?vc27 rfl (by rfl) (by kernel_rfl) (by kernel_rfl) (by kernel_rfl) (fun _ _ _ h => h) (Or.inl ⟨by rfl, ?hyc27⟩) (by assumption) ?restc27
            case hyc27 => (intro w hSw; (try dsimp only at hSw); go_simp; try (with_reducible rfl))
            (try simp only [List.setIfInBounds_toArray, List.set_cons_zero, List.set_cons_succ])
            refine takeH (i := 28) 41 ?vc28 rfl (by rfl) (by kernel_rfl) (by kernel_rfl) (by kernel_rfl) (fun _ _ _ h => h) (Or.inl ⟨by rfl, ?hyc28⟩) (by assumption) ?restc28
            case hyc28 => (intro w hSw; (try dsimp only at hSw); go_simp; try (with_reducible rfl))
            (try simp only [List.setIfInBounds_toArray, List.set_cons_zero, List.set_cons_succ])
            refine takeH (i := 29) 42 ?vc29 rfl (by rfl) (by kernel_rfl) (by kernel_rfl) (by kernel_rfl) (fun _ _ _ h => h) (Or.inl ⟨by rfl, ?hyc29⟩) (by assumption) ?restc29
            case hyc29 => (intro w hSw; (try dsimp only at hSw); go_simp; try (with_reducible rfl))
            (try simp only [List.setIfInBounds_toArray, List.set_cons_zero, List.set_cons_succ])
            refine takeH (i := 30) 43 ?vc30 rfl (by rfl) (by kernel_rfl) (by kernel_rfl) (by kernel_rfl) (fun _ _ _ h => h) (Or.inl ⟨by rfl, ?hyc30⟩) (by assumption) ?restc30
            case hyc30 => (intro w hSw; (try dsimp only at hSw); go_simp; try (with_reducible rfl))
            (try simp only [List.setIfInBounds_toArray, List.set_cons_zero, List.set_cons_succ])
            refine takeH (i := 31) 44 ?vc31 rfl (by rfl) (by kernel_rfl) (by kernel_rfl) (by kernel_rfl) (fun _ _ _ h => h) (Or.inl ⟨by rfl, ?hyc31⟩) (by assumption) ?restc31
            case hyc31 => (intro w hSw; (try dsimp only at hSw); go_simp; try (with_reducible rfl))
            (try simp only [List.setIfInBounds_toArray, List.set_cons_zero, List.set_cons_succ])
            refine takeH (i := 32) 45 ?vc32 rfl (by rfl) (by kernel_rfl) (by kernel_rfl) (by kernel_rfl) (fun _ _ _ h => h) (Or.inl ⟨by rfl, ?hyc32⟩) (by assumption) ?restc32
            case hyc32 => (intro w hSw; (try dsimp only at hSw); go_simp; try (with_reducible rfl))
            (try simp only [List.setIfInBounds_toArray, List.set_cons_zero, List.set_cons_succ])
            refine takeH (i := 33) 46 ?vc33 rfl (by rfl) (by kernel_rfl) (by kernel_rfl) (by kernel_rfl) (fun _ _ _ h => h) (Or.inl ⟨by rfl, ?hyc33⟩) (by assumption) ?restc33
            case hyc33 => (intro w hSw; (try dsimp only at hSw); go_simp; try (with_reducible rfl))
            (try simp only [List.setIfInBounds_toArray, List.set_cons_zero, List.set_cons_succ])
            refine takeH (i := 34) 47 ?vc34 rfl (by rfl) (by kernel_rfl) (by kernel_rfl) (by kernel_rfl) (fun _ _ _ h => h) (Or.inl ⟨by rfl, ?hyc34⟩) (by assumption) ?restc34
            case hyc34 => (intro w hSw; (try dsimp only at hSw); go_simp; try (with_reducible rfl))
            (try simp only [List.setIfInBounds_toArray, List.set_cons_zero, List.set_cons_succ])
            refine takeH (i := 35) 48 ?vc35 rfl (by rfl) (by kernel_rfl) (by kernel_rfl) (by kernel_rfl) (fun _ _ _ h => h) (Or.inl ⟨by rfl, ?hyc35⟩) (by assumption) ?restc35
            case hyc35 => (intro w hSw; (try dsimp only at hSw); go_simp; try (with_reducible rfl))
            (try simp only [List.setIfInBounds_toArray, List.set_cons_zero, List.set_cons_succ])
            refine takeH (i := 36) 49 ?vc36 rfl (by rfl) (by kernel_rfl) (by kernel_rfl) (by kernel_rfl) (fun _ _ _ h => h) (Or.inl ⟨by rfl, ?hyc36⟩) (by assumption) ?restc36
            case hyc36 => (intro w hSw; (try dsimp only at hSw); go_simp; try (with_reducible rfl))
            (try simp only [List.setIfInBounds_toArray, List.set_cons_zero, List.set_cons_succ])
            refine takeH (i := 37) 50 undef rfl (by rfl) (by kernel_rfl) (by kernel_rfl) (by kernel_rfl) (fun _ _ _ h => h) (Or.inr ⟨by rfl, rfl⟩) (by assumption) ?_
            (try simp only [List.setIfInBounds_toArray, List.set_cons_zero, List.set_cons_succ])
            refine takeH (i := 38) 51 undef rfl (by rfl) (by kernel_rfl) (by kernel_rfl) (by kernel_rfl) (fun _ _ _ h => h) (Or.inr ⟨by rfl, rfl⟩) (by assumption) ?_
            (try simp only [List.setIfInBounds_toArray, List.set_cons_zero, List.set_cons_succ])
            refine takeH (i := 39) 52 undef rfl (by rfl) (by kernel_rfl) (by kernel_rfl) (by kernel_rfl) (fun _ _ _ h => h) (Or.inr ⟨by rfl, rfl⟩) (by assumption) ?_
            (try simp only [List.setIfInBounds_toArray, List.set_cons_zero, List.set_cons_succ])
            refine takeH (i := 40) 53 undef rfl (by rfl) (by kernel_rfl) (by kernel_rfl) (by kernel_rfl) (fun _ _ _ h => h) (Or.inr ⟨by rfl, rfl⟩) (by assumption) ?_
            (try simp only [List.setIfInBounds_toArray, List.set_cons_zero, List.set_cons_succ])
            refine takeH (i := 41) 54 undef rfl (by rfl) (by kernel_rfl) (by kernel_rfl) (by kernel_rfl) (fun _ _ _ h => h) (Or.inr ⟨by rfl, rfl⟩) (by assumption) ?_
            (try simp only [List.setIfInBounds_toArray, List.set_cons_zero, List.set_cons_succ])
            refine takeH (i := 42) 55 undef rfl (by rfl) (by kernel_rfl) (by kernel_rfl) (by kernel_rfl) (fun _ _ _ h => h) (Or.inr ⟨by rfl, rfl⟩) (by assumption) ?_
            (try simp only [List.setIfInBounds_toArray, List.set_cons_zero, List.set_cons_succ])
            refine takeH (i := 43) 56 ?vc43 rfl (by rfl) (by kernel_rfl) (by kernel_rfl) (by kernel_rfl) (fun _ _ _ h => h) (Or.inl ⟨by rfl, ?hyc43⟩) (by assumption) ?restc43
            case hyc43 => (intro w hSw; (try dsimp only at hSw); go_simp; try (with_reducible rfl))
            (try simp only [List.setIfInBounds_toArray, List.set_cons_zero, List.set_cons_succ])
            refine takeH (i := 44) 57 ?vc44 rfl (by rfl) (by kernel_rfl) (by kernel_rfl) (by kernel_rfl) (fun _ _ _ h => h) (Or.inl ⟨by rfl, ?hyc44⟩) (by assumption) ?restc44
            case hyc44 => (intro w hSw; (try dsimp only at hSw); go_simp; try (with_reducible rfl))
            (try simp only [List.setIfInBounds_toArray, List.set_cons_zero, List.set_cons_succ])
            refine takeH (i := 45) 58 ?vc45 rfl (by rfl) (by kernel_rfl) (by kernel_rfl) (by kernel_rfl) (fun _ _ _ h => h) (Or.inl ⟨by rfl, ?hyc45⟩) (by assumption) ?restc45
            case hyc45 => (intro w hSw; (try dsimp only at hSw); go_simp; try (with_reducible rfl))
            (try simp only [List.setIfInBounds_toArray, List.set_cons_zero, List.set_cons_succ])
            refine takeH (i := 46) 59 ?vc46 rfl (by rfl) (by kernel_rfl) (by kernel_rfl) (by kernel_rfl) (fun _ _ _ h => h) (Or.inl ⟨by rfl, ?hyc46⟩) (by assumption) ?restc46
            case hyc46 => (intro w hSw; (try dsimp only at hSw); go_simp; try (with_reducible rfl))
            (try simp only [List.setIfInBounds_toArray, List.set_cons_zero, List.set_cons_succ])
            refine takeH (i := 47) 60 ?vc47 rfl (by rfl) (by kernel_rfl) (by kernel_rfl) (by kernel_rfl) (fun _ _ _ h => h) (Or.inl ⟨by rfl, ?hyc47⟩) (by assumption) ?restc47
            case hyc47 => (intro w hSw; (try dsimp only at hSw); go_simp; try (with_reducible rfl))
            (try simp only [List.setIfInBounds_toArray, List.set_cons_zero, List.set_cons_succ])
            refine takeH (i := 48) 61 ?vc48 rfl (by rfl) (by kernel_rfl) (by kernel_rfl) (by kernel_rfl) (fun _ _ _ h => h) (Or.inl ⟨by rfl, ?hyc48⟩) (by assumption) ?restc48
            case hyc48 => (intro w hSw; (try dsimp only at hSw); go_simp; try (with_reducible rfl))
            (try simp only [List.setIfInBounds_toArray, List.set_cons_zero, List.set_cons_succ])
            refine takeH (i := 49) 62 ?vc49 rfl (by rfl) (by kernel_rfl) (by kernel_rfl) (by kernel_rfl) (fun _ _ _ h => h) (Or.inl ⟨by rfl, ?hyc49⟩) (by assumption) ?restc49
            case hyc49 => (intro w hSw; (try dsimp only at hSw); go_simp; try (with_reducible rfl))
            (try simp only [List.setIfInBounds_toArray, List.set_cons_zero, List.set_cons_succ])
            refine takeH (i := 50) 63 ?vc50 rfl (by rfl) (by kernel_rfl) (by kernel_rfl) (by kernel_rfl) (fun _ _ _ h => h) (Or.inl ⟨by rfl, ?hyc50⟩) (by assumption) ?restc50
            case hyc50 => (intro w hSw; (try dsimp only at hSw); go_simp; try (with_reducible rfl))
            (try simp only [List.setIfInBounds_toArray, List.set_cons_zero, List.set_cons_succ])
            refine wpAnyH_ready (rs := [51]) (by kernel_rfl) (by simp) (AllReadyH.cons rfl (fun Kq hKq => ?_) AllReadyH.nil)
            go_simp
            go_at_call 20
            refine (valid_any rem HZk.out.1 wo.drew ((HT.out.below HB.out).drew)).mono ?_
            rintro e' w1 ⟨b1, rfl, hb1⟩
            go_wp2_with fail
            refine hKq.out _ _ ⟨cell_below (w := wo.drew) h0 hb1, cell_below (w := wo.drew) h1 hb1, cell_below (w := wo.drew) h2 hb1, cell_below (w := wo.drew) h3 hb1⟩ (fun hHeld => ?_)
            clear hKq Kq
            (try simp only [List.setIfInBounds_toArray, List.set_cons_zero, List.set_cons_succ])
            refine takeH (i := 52) 65 ?vc52 rfl (by rfl) (by kernel_rfl) (by kernel_rfl) (by kernel_rfl) (fun _ _ _ h => h) (Or.inl ⟨by rfl, ?hyc52⟩) (by assumption) ?restc52
            case hyc52 => (intro w hSw; (try dsimp only at hSw); go_simp; try (with_reducible rfl))
            (try simp only [List.setIfInBounds_toArray, List.set_cons_zero, List.set_cons_succ])
            refine takeH (i := 53) 66 ?vc53 rfl (by rfl) (by kernel_rfl) (by kernel_rfl) (by kernel_rfl) (fun _ _ _ h => h) (Or.inl ⟨by rfl, ?hyc53⟩) (by assumption) ?restc53
            case hyc53 => (intro w hSw; (try dsimp only at hSw); go_simp; try (with_reducible rfl))
            (try simp only [List.setIfInBounds_toArray, List.set_cons_zero, List.set_cons_succ])
            refine wpAnyH_done (by kernel_rfl) ?_ _
            clear hd1 hd2 hd3
            have HB1 := Lib.hid (show Below wo.heap.size wo w1 from ⟨hb1.os, hb1.tape, hb1.output, hb1.size, hb1.block⟩)
            clear hb1 hHeld h0 h1 h2 h3
            cases b1
            · go_wp2
              go_ret
              exact ⟨false, rfl, (fun h => by cases h), HB.out.trans (HB1.out.mono hsz)⟩
            · try simp only [Bool.not_true, Bool.not_false]
              go_wp2
              go_loopw [4] (fun i wr => ∃ j : Nat, j ≤ ns.length ∧ i = .int .i64 j ∧ (∀ (m : Nat) (n : Int), m < j → hs[m]? = some n → 0 ≤ n ∧ n ≤ 2) ∧ Below wo.heap.size wo wr) (fun i _ => ns.length - (intOf i).toNat)
              case atStart => exact ⟨0, by omega, rfl, fun m n h => absurd h (by omega), HB1.out⟩
              case round =>
                obtain ⟨j, hj, rfl, hall2, hb2⟩ := hrel
                obtain ⟨wi, rfl⟩ : ∃ wi : World, wi = wr := ⟨_, rfl⟩
                have HA2 := Lib.hid hall2
                have HB2 := Lib.hid hb2
                have hs2 := hb2.size
                have y2 := cell_below H2.out hb2
                have y3 := cell_below H3.out hb2
                clear hall2
                by_cases hlj : j < ns.length
                · obtain ⟨ad2, n, rfl, -, hn, hcc⟩ := HR2.out.int_ (k := j) (by have := HL.out; omega)
                  obtain ⟨ad1, t, rfl, -, ht, hct⟩ := HR1.out.line hlj
                  have e2 := cell_below hcc hb2
                  have e1 := cell_below hct hb2
                  have HC1 := Lib.hid hct
                  have HTS := Lib.hid (HZk.out.2 t (List.mem_of_getElem? ht))
                  have HN := Lib.hid hn
                  clear hn hcc hct ht
                  by_cases hn3 : n = 0 ∨ n = 1 ∨ n = 2
                  · have HN2 : Hid (∀ (m : Nat) (n : Int), m < j + 1 → hs[m]? = some n → 0 ≤ n ∧ n ≤ 2) := fun m n' hm h => by
                      by_cases hmj : m = j
                      · subst hmj
                        rw [HN.out] at h
                        injection h with h
                        omega
                      · exact HA2.out m n' (by omega) h
                    rcases hn3 with rfl | rfl | rfl
                    all_goals
                      go_wp2_with fail
                      go_at_call 20
                      refine (valid_any t HTS.out wi ((HT.out.below HB.out).below HB2.out)).mono ?_
                      rintro e' w3 ⟨b3, rfl, hb3⟩
                      have HB3 := Lib.hid (HB2.out.trans (hb3.mono hs2))
                      clear hb3 y2 y3 e1 e2
                      cases b3
                      · go_wp2
                        go_ret
                        exact ⟨false, rfl, (fun h => by cases h), HB.out.trans (HB3.out.mono hsz)⟩
                      · go_wp2
                        go_loopw [6] (fun i wr => ∃ m : Nat, m ≤ j ∧ i = .int .i64 m ∧ Below wo.heap.size wo wr) (fun i _ => j - (intOf i).toNat)
                        case atStart => exact ⟨0, by omega, rfl, HB3.out⟩
                        case round =>
                          obtain ⟨m, hm, rfl, hb4⟩ := hrel
                          obtain ⟨w4, rfl⟩ : ∃ w4 : World, w4 = wr := ⟨_, rfl⟩
                          have HB4 := Lib.hid hb4
                          by_cases hmj : m < j
                          · obtain ⟨ad5, t2, had, -, -, hct2⟩ := HR1.out.line (show m < ns.length by omega)
                            injection had with had
                            subst had
                            have x2 := cell_below H2.out hb4
                            have x1 := cell_below HC1.out hb4
                            have x5 := cell_below hct2 hb4
                            have q1 : (0 : Int) ≤ (m : Int) := by omega
                            have q2 : (m : Int) < (ns.length : Int) := by omega
                            have q3 : (0 : Int) ≤ (j : Int) := by omega
                            have q4 : (j : Int) < (ns.length : Int) := by omega
                            clear hct2 hb4
                            cases heq : (t2.toList == t.toList)
                            · go_wp2
                              go_quiet (fail)
                              go_wp2
                              go_roundw
                              case rel => exact ⟨m + 1, by omega, by go_num, below_drewN HB4.out _⟩
                              case measure => simp [intOf]; omega
                            · go_wp2
                              go_quiet (fail)
                              go_wp2
                              go_ret
                              exact ⟨false, rfl, (fun h => by cases h), below_drewN (HB.out.trans (HB4.out.mono hsz)) _⟩
                          · go_wp2
                            go_roundw
                            case rel => exact ⟨j + 1, by omega, by go_num, HN2.out, HB4.out⟩
                            case measure => simp [intOf]; omega
                  · have d0 : (n != 0) = true := by simp; omega
                    have d1 : (n != 1) = true := by simp; omega
                    have d2 : (n != 2) = true := by simp; omega
                    clear hn3
                    go_wp2
                    go_ret
                    exact ⟨false, rfl, (fun h => by cases h), HB.out.trans (HB2.out.mono hsz)⟩
                · obtain rfl : j = ns.length := by omega
                  have HO : Hid (∀ (j : Nat) (e : St), j < k + 1 → E[j]? = some e → Okh e) := fun j e hj h => by
                    by_cases hjk : j = k
                    · subst hjk
                      rw [HEk.out] at h
                      injection h with h
                      subst h
                      refine ⟨HL.out, fun x hx => ?_⟩
                      obtain ⟨m, hm, e⟩ := List.mem_iff_getElem.1 hx
                      have hm' : m < hs.length := hm
                      exact HA2.out m x (by have := HL.out; omega) (by rw [← e]; exact List.getElem?_eq_getElem hm)
                    · exact HA.out j e (by omega) h
                  go_wp2
                  go_roundw
                  case rel => exact ⟨k + 1, by omega, by go_num, HO.out, HB.out.trans (HB2.out.mono hsz)⟩
                  case measure => simp [intOf]; omega
          · have hd1 : decide ((0 : Int) < (ns.length : Int)) = true := decide_eq_true (by omega)
            have hd2 : decide (0 < ns.length) = true := decide_eq_true (by omega)
            have hd3 : 0 < ns.length := by omega
            clear hd hn0
            go_wp2_with fail
            refine wp_region_held_drew (S := (fun w' => w'.cell? (ad.add (k * 4)) = some (.bool true) ∧ w'.cell? ⟨(ad.add (k * 4)).block, (ad.add (k * 4)).off + 1, none⟩ = some (.string rem) ∧ w'.cell? ⟨(ad.add (k * 4)).block, (ad.add (k * 4)).off + 2, none⟩ = some (.slice A' ns.length c') ∧ w'.cell? ⟨(ad.add (k * 4)).block, (ad.add (k * 4)).off + 3, none⟩ = some (.slice A2 ns.length c2))) (by kernel_rfl) ⟨h0, h1, h2, h3⟩ (fun hHeld => ?_)
            refine takeH (i := 0) 13 ?vb0 rfl (by rfl) (by kernel_rfl) (by kernel_rfl) (by kernel_rfl) (fun _ _ _ h => h) (Or.inl ⟨by rfl, ?hyb0⟩) (by assumption) ?restb0
            case hyb0 => (intro w hSw; (try dsimp only at hSw); go_simp; try (with_reducible rfl))
            (try simp only [List.setIfInBounds_toArray, List.set_cons_zero, List.set_cons_succ])
            refine takeH (i := 1) 14 ?vb1 rfl (by rfl) (by kernel_rfl) (by kernel_rfl) (by kernel_rfl) (fun _ _ _ h => h) (Or.inl ⟨by rfl, ?hyb1⟩) (by assumption) ?restb1
            case hyb1 => (intro w hSw; (try dsimp only at hSw); go_simp; try (with_reducible rfl))
            (try simp only [List.setIfInBounds_toArray, List.set_cons_zero, List.set_cons_succ])
            refine takeH (i := 2) 15 ?vb2 rfl (by rfl) (by kernel_rfl) (by kernel_rfl) (by kernel_rfl) (fun _ _ _ h => h) (Or.inl ⟨by rfl, ?hyb2⟩) (by assumption) ?restb2
            case hyb2 => (intro w hSw; (try dsimp only at hSw); go_simp; try (with_reducible rfl))
            (try simp only [List.setIfInBounds_toArray, List.set_cons_zero, List.set_cons_succ])
            refine takeH (i := 3) 16 ?vb3 rfl (by rfl) (by kernel_rfl) (by kernel_rfl) (by kernel_rfl) (fun _ _ _ h => h) (Or.inl ⟨by rfl, ?hyb3⟩) (by assumption) ?restb3
            case hyb3 => (intro w hSw; (try dsimp only at hSw); go_simp; try (with_reducible rfl))
            (try simp only [List.setIfInBounds_toArray, List.set_cons_zero, List.set_cons_succ])
            refine takeH (i := 4) 17 ?vb4 rfl (by rfl) (by kernel_rfl) (by kernel_rfl) (by kernel_rfl) (fun _ _ _ h => h) (Or.inl ⟨by rfl, ?hyb4⟩) (by assumption) ?restb4
            case hyb4 => (intro w hSw; (try dsimp only at hSw); go_simp; try (with_reducible rfl))
            (try simp only [List.setIfInBounds_toArray, List.set_cons_zero, List.set_cons_succ])
            refine takeH (i := 5) 18 ?vb5 rfl (by rfl) (by kernel_rfl) (by kernel_rfl) (by kernel_rfl) (fun _ _ _ h => h) (Or.inl ⟨by rfl, ?hyb5⟩) (by assumption) ?restb5
            case hyb5 => (intro w hSw; (try dsimp only at hSw); go_simp; try (with_reducible rfl))
            (try simp only [List.setIfInBounds_toArray, List.set_cons_zero, List.set_cons_succ])
            refine takeH (i := 6) 19 ?vb6 rfl (by rfl) (by kernel_rfl) (by kernel_rfl) (by kernel_rfl) (fun _ _ _ h => h) (Or.inl ⟨by rfl, ?hyb6⟩) (by assumption) ?restb6
            case hyb6 => (intro w hSw; (try dsimp only at hSw); go_simp; try (with_reducible rfl))
            (try simp only [List.setIfInBounds_toArray, List.set_cons_zero, List.set_cons_succ])
            refine takeH (i := 7) 20 ?vb7 rfl (by rfl) (by kernel_rfl) (by kernel_rfl) (by kernel_rfl) (fun _ _ _ h => h) (Or.inl ⟨by rfl, ?hyb7⟩) (by assumption) ?restb7
            case hyb7 => (intro w hSw; (try dsimp only at hSw); go_simp; try (with_reducible rfl))
            (try simp only [List.setIfInBounds_toArray, List.set_cons_zero, List.set_cons_succ])
            refine takeH (i := 8) 21 ?vb8 rfl (by rfl) (by kernel_rfl) (by kernel_rfl) (by kernel_rfl) (fun _ _ _ h => h) (Or.inl ⟨by rfl, ?hyb8⟩) (by assumption) ?restb8
            case hyb8 => (intro w hSw; (try dsimp only at hSw); go_simp; try (with_reducible rfl))
            (try simp only [List.setIfInBounds_toArray, List.set_cons_zero, List.set_cons_succ])
            refine takeH (i := 9) 22 ?vb9 rfl (by rfl) (by kernel_rfl) (by kernel_rfl) (by kernel_rfl) (fun _ _ _ h => h) (Or.inl ⟨by rfl, ?hyb9⟩) (by assumption) ?restb9
            case hyb9 => (intro w hSw; (try dsimp only at hSw); go_simp; try (with_reducible rfl))
            (try simp only [List.setIfInBounds_toArray, List.set_cons_zero, List.set_cons_succ])
            refine takeH (i := 10) 23 ?vb10 rfl (by rfl) (by kernel_rfl) (by kernel_rfl) (by kernel_rfl) (fun _ _ _ h => h) (Or.inl ⟨by rfl, ?hyb10⟩) (by assumption) ?restb10
            case hyb10 => (intro w hSw; (try dsimp only at hSw); go_simp; try (with_reducible rfl))
            (try simp only [List.setIfInBounds_toArray, List.set_cons_zero, List.set_cons_succ])
            refine takeH (i := 11) 24 ?vb11 rfl (by rfl) (by kernel_rfl) (by kernel_rfl) (by kernel_rfl) (fun _ _ _ h => h) (Or.inl ⟨by rfl, ?hyb11⟩) (by assumption) ?restb11
            case hyb11 => (intro w hSw; (try dsimp only at hSw); go_simp; try (with_reducible rfl))
            (try simp only [List.setIfInBounds_toArray, List.set_cons_zero, List.set_cons_succ])
            refine takeH (i := 12) 25 ?vb12 rfl (by rfl) (by kernel_rfl) (by kernel_rfl) (by kernel_rfl) (fun _ _ _ h => h) (Or.inl ⟨by rfl, ?hyb12⟩) (by assumption) ?restb12
            case hyb12 => (intro w hSw; (try dsimp only at hSw); go_simp; try (with_reducible rfl))
            (try simp only [List.setIfInBounds_toArray, List.set_cons_zero, List.set_cons_succ])
            refine takeH (i := 13) 26 ?vb13 rfl (by rfl) (by kernel_rfl) (by kernel_rfl) (by kernel_rfl) (fun _ _ _ h => h) (Or.inl ⟨by rfl, ?hyb13⟩) (by assumption) ?restb13
            case hyb13 => (intro w hSw; (try dsimp only at hSw); go_simp; try (with_reducible rfl))
            (try simp only [List.setIfInBounds_toArray, List.set_cons_zero, List.set_cons_succ])
            refine takeH (i := 14) 27 ?vb14 rfl (by rfl) (by kernel_rfl) (by kernel_rfl) (by kernel_rfl) (fun _ _ _ h => h) (Or.inl ⟨by rfl, ?hyb14⟩) (by assumption) ?restb14
            case hyb14 => (intro w hSw; (try dsimp only at hSw); go_simp; try (with_reducible rfl))
            (try simp only [List.setIfInBounds_toArray, List.set_cons_zero, List.set_cons_succ])
            refine takeH (i := 15) 28 ?vb15 rfl (by rfl) (by kernel_rfl) (by kernel_rfl) (by kernel_rfl) (fun _ _ _ h => h) (Or.inl ⟨by rfl, ?hyb15⟩) (by assumption) ?restb15
            case hyb15 => (intro w hSw; (try dsimp only at hSw); go_simp; try (with_reducible rfl))
            (try simp only [List.setIfInBounds_toArray, List.set_cons_zero, List.set_cons_succ])
            refine takeH (i := 16) 29 ?vb16 rfl (by rfl) (by kernel_rfl) (by kernel_rfl) (by kernel_rfl) (fun _ _ _ h => h) (Or.inl ⟨by rfl, ?hyb16⟩) (by assumption) ?restb16
            case hyb16 => (intro w hSw; (try dsimp only at hSw); go_simp; try (with_reducible rfl))
            (try simp only [List.setIfInBounds_toArray, List.set_cons_zero, List.set_cons_succ])
            refine takeH (i := 17) 30 ?vb17 rfl (by rfl) (by kernel_rfl) (by kernel_rfl) (by kernel_rfl) (fun _ _ _ h => h) (Or.inl ⟨by rfl, ?hyb17⟩) (by assumption) ?restb17
            case hyb17 => (intro w hSw; (try dsimp only at hSw); go_simp; try (with_reducible rfl))
            (try simp only [List.setIfInBounds_toArray, List.set_cons_zero, List.set_cons_succ])
            refine takeH (i := 18) 31 ?vb18 rfl (by rfl) (by kernel_rfl) (by kernel_rfl) (by kernel_rfl) (fun _ _ _ h => h) (Or.inl ⟨by rfl, ?hyb18⟩) (by assumption) ?restb18
            case hyb18 => (intro w hSw; (try dsimp only at hSw); go_simp; try (with_reducible rfl))
            (try simp only [List.setIfInBounds_toArray, List.set_cons_zero, List.set_cons_succ])
            refine takeH (i := 19) 32 ?vb19 rfl (by rfl) (by kernel_rfl) (by kernel_rfl) (by kernel_rfl) (fun _ _ _ h => h) (Or.inl ⟨by rfl, ?hyb19⟩) (by assumption) ?restb19
            case hyb19 => (intro w hSw; (try dsimp only at hSw); go_simp; try (with_reducible rfl))
            (try simp only [List.setIfInBounds_toArray, List.set_cons_zero, List.set_cons_succ])
            refine takeH (i := 20) 33 ?vb20 rfl (by rfl) (by kernel_rfl) (by kernel_rfl) (by kernel_rfl) (fun _ _ _ h => h) (Or.inl ⟨by rfl, ?hyb20⟩) (by assumption) ?restb20
            case hyb20 => (intro w hSw; (try dsimp only at hSw); go_simp; try (with_reducible rfl))
            (try simp only [List.setIfInBounds_toArray, List.set_cons_zero, List.set_cons_succ])
            refine takeH (i := 21) 34 ?vb21 rfl (by rfl) (by kernel_rfl) (by kernel_rfl) (by kernel_rfl) (fun _ _ _ h => h) (Or.inl ⟨by rfl, ?hyb21⟩) (by assumption) ?restb21
            case hyb21 => (intro w hSw; (try dsimp only at hSw); go_simp; try (with_reducible rfl))
            (try simp only [List.setIfInBounds_toArray, List.set_cons_zero, List.set_cons_succ])
            refine takeH (i := 22) 35 ?vb22 rfl (by rfl) (by kernel_rfl) (by kernel_rfl) (by kernel_rfl) (fun _ _ _ h => h) (Or.inl ⟨by rfl, ?hyb22⟩) (by assumption) ?restb22
            case hyb22 => (intro w hSw; (try dsimp only at hSw); go_simp; try (with_reducible rfl))
            (try simp only [List.setIfInBounds_toArray, List.set_cons_zero, List.set_cons_succ])
            refine takeH (i := 23) 36 ?vb23 rfl (by rfl) (by kernel_rfl) (by kernel_rfl) (by kernel_rfl) (fun _ _ _ h => h) (Or.inl ⟨by rfl, ?hyb23⟩) (by assumption) ?restb23
            case hyb23 => (intro w hSw; (try dsimp only at hSw); go_simp; try (with_reducible rfl))
            (try simp only [List.setIfInBounds_toArray, List.set_cons_zero, List.set_cons_succ])
            refine takeH (i := 24) 37 ?vb24 rfl (by rfl) (by kernel_rfl) (by kernel_rfl) (by kernel_rfl) (fun _ _ _ h => h) (Or.inl ⟨by rfl, ?hyb24⟩) (by assumption) ?restb24
            case hyb24 => (intro w hSw; (try dsimp only at hSw); go_simp; try (with_reducible rfl))
            (try simp only [List.setIfInBounds_toArray, List.set_cons_zero, List.set_cons_succ])
            refine takeH (i := 25) 38 ?vb25 rfl (by rfl) (by kernel_rfl) (by kernel_rfl) (by kernel_rfl) (fun _ _ _ h => h) (Or.inl ⟨by rfl, ?hyb25⟩) (by assumption) ?restb25
            case hyb25 => (intro w hSw; (try dsimp only at hSw); go_simp; try (with_reducible rfl))
            (try simp only [List.setIfInBounds_toArray, List.set_cons_zero, List.set_cons_succ])
            refine takeH (i := 26) 39 ?vb26 rfl (by rfl) (by kernel_rfl) (by kernel_rfl) (by kernel_rfl) (fun _ _ _ h => h) (Or.inl ⟨by rfl, ?hyb26⟩) (by assumption) ?restb26
            case hyb26 => (intro w hSw; (try dsimp only at hSw); go_simp; try (with_reducible rfl))
            (try simp only [List.setIfInBounds_toArray, List.set_cons_zero, List.set_cons_succ])
            refine takeH (i := 27) 40 ?vb27 rfl (by rfl) (by kernel_rfl) (by kernel_rfl) (by kernel_rfl) (fun _ _ _ h => h) (Or.inl ⟨by rfl, ?hyb27⟩) (by assumption) ?restb27
            case hyb27 => (intro w hSw; (try dsimp only at hSw); go_simp; try (with_reducible rfl))
            (try simp only [List.setIfInBounds_toArray, List.set_cons_zero, List.set_cons_succ])
            refine takeH (i := 28) 41 ?vb28 rfl (by rfl) (by kernel_rfl) (by kernel_rfl) (by kernel_rfl) (fun _ _ _ h => h) (Or.inl ⟨by rfl, ?hyb28⟩) (by assumption) ?restb28
            case hyb28 => (intro w hSw; (try dsimp only at hSw); go_simp; try (with_reducible rfl))
            (try simp only [List.setIfInBounds_toArray, List.set_cons_zero, List.set_cons_succ])
            refine takeH (i := 29) 42 ?vb29 rfl (by rfl) (by kernel_rfl) (by kernel_rfl) (by kernel_rfl) (fun _ _ _ h => h) (Or.inl ⟨by rfl, ?hyb29⟩) (by assumption) ?restb29
            case hyb29 => (intro w hSw; (try dsimp only at hSw); go_simp; try (with_reducible rfl))
            (try simp only [List.setIfInBounds_toArray, List.set_cons_zero, List.set_cons_succ])
            refine takeH (i := 30) 43 undef rfl (by rfl) (by kernel_rfl) (by kernel_rfl) (by kernel_rfl) (fun _ _ _ h => h) (Or.inr ⟨by rfl, rfl⟩) (by assumption) ?_
            (try simp only [List.setIfInBounds_toArray, List.set_cons_zero, List.set_cons_succ])
            refine takeH (i := 31) 44 undef rfl (by rfl) (by kernel_rfl) (by kernel_rfl) (by kernel_rfl) (fun _ _ _ h => h) (Or.inr ⟨by rfl, rfl⟩) (by assumption) ?_
            (try simp only [List.setIfInBounds_toArray, List.set_cons_zero, List.set_cons_succ])
            refine takeH (i := 32) 45 undef rfl (by rfl) (by kernel_rfl) (by kernel_rfl) (by kernel_rfl) (fun _ _ _ h => h) (Or.inr ⟨by rfl, rfl⟩) (by assumption) ?_
            (try simp only [List.setIfInBounds_toArray, List.set_cons_zero, List.set_cons_succ])
            refine takeH (i := 33) 46 undef rfl (by rfl) (by kernel_rfl) (by kernel_rfl) (by kernel_rfl) (fun _ _ _ h => h) (Or.inr ⟨by rfl, rfl⟩) (by assumption) ?_
            (try simp only [List.setIfInBounds_toArray, List.set_cons_zero, List.set_cons_succ])
            refine takeH (i := 34) 47 undef rfl (by rfl) (by kernel_rfl) (by kernel_rfl) (by kernel_rfl) (fun _ _ _ h => h) (Or.inr ⟨by rfl, rfl⟩) (by assumption) ?_
            (try simp only [List.setIfInBounds_toArray, List.set_cons_zero, List.set_cons_succ])
            refine takeH (i := 35) 48 undef rfl (by rfl) (by kernel_rfl) (by kernel_rfl) (by kernel_rfl) (fun _ _ _ h => h) (Or.inr ⟨by rfl, rfl⟩) (by assumption) ?_
            (try simp only [List.setIfInBounds_toArray, List.set_cons_zero, List.set_cons_succ])
            refine takeH (i := 36) 49 undef rfl (by rfl) (by kernel_rfl) (by kernel_rfl) (by kernel_rfl) (fun _ _ _ h => h) (Or.inr ⟨by rfl, rfl⟩) (by assumption) ?_
            (try simp only [List.setIfInBounds_toArray, List.set_cons_zero, List.set_cons_succ])
            refine takeH (i := 37) 50 undef rfl (by rfl) (by kernel_rfl) (by kernel_rfl) (by kernel_rfl) (fun _ _ _ h => h) (Or.inr ⟨by rfl, rfl⟩) (by assumption) ?_
            (try simp only [List.setIfInBounds_toArray, List.set_cons_zero, List.set_cons_succ])
            refine takeH (i := 38) 51 undef rfl (by rfl) (by kernel_rfl) (by kernel_rfl) (by kernel_rfl) (fun _ _ _ h => h) (Or.inr ⟨by rfl, rfl⟩) (by assumption) ?_
            (try simp only [List.setIfInBounds_toArray, List.set_cons_zero, List.set_cons_succ])
            refine takeH (i := 39) 52 undef rfl (by rfl) (by kernel_rfl) (by kernel_rfl) (by kernel_rfl) (fun _ _ _ h => h) (Or.inr ⟨by rfl, rfl⟩) (by assumption) ?_
            (try simp only [List.setIfInBounds_toArray, List.set_cons_zero, List.set_cons_succ])
            refine takeH (i := 40) 53 undef rfl (by rfl) (by kernel_rfl) (by kernel_rfl) (by kernel_rfl) (fun _ _ _ h => h) (Or.inr ⟨by rfl, rfl⟩) (by assumption) ?_
            (try simp only [List.setIfInBounds_toArray, List.set_cons_zero, List.set_cons_succ])
            refine takeH (i := 41) 54 undef rfl (by rfl) (by kernel_rfl) (by kernel_rfl) (by kernel_rfl) (fun _ _ _ h => h) (Or.inr ⟨by rfl, rfl⟩) (by assumption) ?_
            (try simp only [List.setIfInBounds_toArray, List.set_cons_zero, List.set_cons_succ])
            refine takeH (i := 42) 55 undef rfl (by rfl) (by kernel_rfl) (by kernel_rfl) (by kernel_rfl) (fun _ _ _ h => h) (Or.inr ⟨by rfl, rfl⟩) (by assumption) ?_
            (try simp only [List.setIfInBounds_toArray, List.set_cons_zero, List.set_cons_succ])
            refine takeH (i := 43) 56 undef rfl (by rfl) (by kernel_rfl) (by kernel_rfl) (by kernel_rfl) (fun _ _ _ h => h) (Or.inr ⟨by rfl, rfl⟩) (by assumption) ?_
            (try simp only [List.setIfInBounds_toArray, List.set_cons_zero, List.set_cons_succ])
            refine takeH (i := 44) 57 ?vb44 rfl (by rfl) (by kernel_rfl) (by kernel_rfl) (by kernel_rfl) (fun _ _ _ h => h) (Or.inl ⟨by rfl, ?hyb44⟩) (by assumption) ?restb44
            case hyb44 => (intro w hSw; (try dsimp only at hSw); go_simp; try (with_reducible rfl))
            (try simp only [List.setIfInBounds_toArray, List.set_cons_zero, List.set_cons_succ])
            refine takeH (i := 45) 58 ?vb45 rfl (by rfl) (by kernel_rfl) (by kernel_rfl) (by kernel_rfl) (fun _ _ _ h => h) (Or.inl ⟨by rfl, ?hyb45⟩) (by assumption) ?restb45
            case hyb45 => (intro w hSw; (try dsimp only at hSw); go_simp; try (with_reducible rfl))
            (try simp only [List.setIfInBounds_toArray, List.set_cons_zero, List.set_cons_succ])
            refine takeH (i := 46) 59 undef rfl (by rfl) (by kernel_rfl) (by kernel_rfl) (by kernel_rfl) (fun _ _ _ h => h) (Or.inr ⟨by rfl, rfl⟩) (by assumption) ?_
            (try simp only [List.setIfInBounds_toArray, List.set_cons_zero, List.set_cons_succ])
            refine takeH (i := 47) 60 undef rfl (by rfl) (by kernel_rfl) (by kernel_rfl) (by kernel_rfl) (fun _ _ _ h => h) (Or.inr ⟨by rfl, rfl⟩) (by assumption) ?_
            (try simp only [List.setIfInBounds_toArray, List.set_cons_zero, List.set_cons_succ])
            refine takeH (i := 48) 61 undef rfl (by rfl) (by kernel_rfl) (by kernel_rfl) (by kernel_rfl) (fun _ _ _ h => h) (Or.inr ⟨by rfl, rfl⟩) (by assumption) ?_
            (try simp only [List.setIfInBounds_toArray, List.set_cons_zero, List.set_cons_succ])
            refine takeH (i := 49) 62 undef rfl (by rfl) (by kernel_rfl) (by kernel_rfl) (by kernel_rfl) (fun _ _ _ h => h) (Or.inr ⟨by rfl, rfl⟩) (by assumption) ?_
            (try simp only [List.setIfInBounds_toArray, List.set_cons_zero, List.set_cons_succ])
            refine takeH (i := 50) 63 undef rfl (by rfl) (by kernel_rfl) (by kernel_rfl) (by kernel_rfl) (fun _ _ _ h => h) (Or.inr ⟨by rfl, rfl⟩) (by assumption) ?_
            (try simp only [List.setIfInBounds_toArray, List.set_cons_zero, List.set_cons_succ])
            refine takeH (i := 51) 64 undef rfl (by rfl) (by kernel_rfl) (by kernel_rfl) (by kernel_rfl) (fun _ _ _ h => h) (Or.inr ⟨by rfl, rfl⟩) (by assumption) ?_
            (try simp only [List.setIfInBounds_toArray, List.set_cons_zero, List.set_cons_succ])
            refine takeH (i := 52) 65 undef rfl (by rfl) (by kernel_rfl) (by kernel_rfl) (by kernel_rfl) (fun _ _ _ h => h) (Or.inr ⟨by rfl, rfl⟩) (by assumption) ?_
            (try simp only [List.setIfInBounds_toArray, List.set_cons_zero, List.set_cons_succ])
            refine takeH (i := 53) 66 ?vb53 rfl (by rfl) (by kernel_rfl) (by kernel_rfl) (by kernel_rfl) (fun _ _ _ h => h) (Or.inl ⟨by rfl, ?hyb53⟩) (by assumption) ?restb53
            case hyb53 => (intro w hSw; (try dsimp only at hSw); go_simp; try (with_reducible rfl))
            (try simp only [List.setIfInBounds_toArray, List.set_cons_zero, List.set_cons_succ])
            refine wpAnyH_done (by kernel_rfl) ?_ _
            go_wp2
            go_ret
            exact ⟨false, rfl, (fun h => by cases h), HB.out.drew⟩
      · have hd : ((ns.length : Int) != (hs.length : Int)) = true := by simp; omega
        have hd2 : (ns.length != hs.length) = true := by simp; omega
        have hd3 : ¬ ns.length = hs.length := by omega
        clear hl
        go_wp2_with fail
        refine wp_region_held_drew (S := (fun w' => w'.cell? (ad.add (k * 4)) = some (.bool is_) ∧ w'.cell? ⟨(ad.add (k * 4)).block, (ad.add (k * 4)).off + 1, none⟩ = some (.string rem) ∧ w'.cell? ⟨(ad.add (k * 4)).block, (ad.add (k * 4)).off + 2, none⟩ = some (.slice A' ns.length c') ∧ w'.cell? ⟨(ad.add (k * 4)).block, (ad.add (k * 4)).off + 3, none⟩ = some (.slice A2 hs.length c2))) (by kernel_rfl) ⟨h0, h1, h2, h3⟩ (fun hHeld => ?_)
        refine takeH (i := 0) 13 ?va0 rfl (by rfl) (by kernel_rfl) (by kernel_rfl) (by kernel_rfl) (fun _ _ _ h => h) (Or.inl ⟨by rfl, ?hya0⟩) (by assumption) ?resta0
        case hya0 => (intro w hSw; (try dsimp only at hSw); go_simp; try (with_reducible rfl))
        (try simp only [List.setIfInBounds_toArray, List.set_cons_zero, List.set_cons_succ])
        refine takeH (i := 1) 14 ?va1 rfl (by rfl) (by kernel_rfl) (by kernel_rfl) (by kernel_rfl) (fun _ _ _ h => h) (Or.inl ⟨by rfl, ?hya1⟩) (by assumption) ?resta1
        case hya1 => (intro w hSw; (try dsimp only at hSw); go_simp; try (with_reducible rfl))
        (try simp only [List.setIfInBounds_toArray, List.set_cons_zero, List.set_cons_succ])
        refine takeH (i := 2) 15 ?va2 rfl (by rfl) (by kernel_rfl) (by kernel_rfl) (by kernel_rfl) (fun _ _ _ h => h) (Or.inl ⟨by rfl, ?hya2⟩) (by assumption) ?resta2
        case hya2 => (intro w hSw; (try dsimp only at hSw); go_simp; try (with_reducible rfl))
        (try simp only [List.setIfInBounds_toArray, List.set_cons_zero, List.set_cons_succ])
        refine takeH (i := 3) 16 ?va3 rfl (by rfl) (by kernel_rfl) (by kernel_rfl) (by kernel_rfl) (fun _ _ _ h => h) (Or.inl ⟨by rfl, ?hya3⟩) (by assumption) ?resta3
        case hya3 => (intro w hSw; (try dsimp only at hSw); go_simp; try (with_reducible rfl))
        (try simp only [List.setIfInBounds_toArray, List.set_cons_zero, List.set_cons_succ])
        refine takeH (i := 4) 17 ?va4 rfl (by rfl) (by kernel_rfl) (by kernel_rfl) (by kernel_rfl) (fun _ _ _ h => h) (Or.inl ⟨by rfl, ?hya4⟩) (by assumption) ?resta4
        case hya4 => (intro w hSw; (try dsimp only at hSw); go_simp; try (with_reducible rfl))
        (try simp only [List.setIfInBounds_toArray, List.set_cons_zero, List.set_cons_succ])
        refine takeH (i := 5) 18 ?va5 rfl (by rfl) (by kernel_rfl) (by kernel_rfl) (by kernel_rfl) (fun _ _ _ h => h) (Or.inl ⟨by rfl, ?hya5⟩) (by assumption) ?resta5
        case hya5 => (intro w hSw; (try dsimp only at hSw); go_simp; try (with_reducible rfl))
        (try simp only [List.setIfInBounds_toArray, List.set_cons_zero, List.set_cons_succ])
        refine takeH (i := 6) 19 ?va6 rfl (by rfl) (by kernel_rfl) (by kernel_rfl) (by kernel_rfl) (fun _ _ _ h => h) (Or.inl ⟨by rfl, ?hya6⟩) (by assumption) ?resta6
        case hya6 => (intro w hSw; (try dsimp only at hSw); go_simp; try (with_reducible rfl))
        (try simp only [List.setIfInBounds_toArray, List.set_cons_zero, List.set_cons_succ])
        refine takeH (i := 7) 20 ?va7 rfl (by rfl) (by kernel_rfl) (by kernel_rfl) (by kernel_rfl) (fun _ _ _ h => h) (Or.inl ⟨by rfl, ?hya7⟩) (by assumption) ?resta7
        case hya7 => (intro w hSw; (try dsimp only at hSw); go_simp; try (with_reducible rfl))
        (try simp only [List.setIfInBounds_toArray, List.set_cons_zero, List.set_cons_succ])
        refine takeH (i := 8) 21 ?va8 rfl (by rfl) (by kernel_rfl) (by kernel_rfl) (by kernel_rfl) (fun _ _ _ h => h) (Or.inl ⟨by rfl, ?hya8⟩) (by assumption) ?resta8
        case hya8 => (intro w hSw; (try dsimp only at hSw); go_simp; try (with_reducible rfl))
        (try simp only [List.setIfInBounds_toArray, List.set_cons_zero, List.set_cons_succ])
        refine takeH (i := 9) 22 ?va9 rfl (by rfl) (by kernel_rfl) (by kernel_rfl) (by kernel_rfl) (fun _ _ _ h => h) (Or.inl ⟨by rfl, ?hya9⟩) (by assumption) ?resta9
        case hya9 => (intro w hSw; (try dsimp only at hSw); go_simp; try (with_reducible rfl))
        (try simp only [List.setIfInBounds_toArray, List.set_cons_zero, List.set_cons_succ])
        refine takeH (i := 10) 23 ?va10 rfl (by rfl) (by kernel_rfl) (by kernel_rfl) (by kernel_rfl) (fun _ _ _ h => h) (Or.inl ⟨by rfl, ?hya10⟩) (by assumption) ?resta10
        case hya10 => (intro w hSw; (try dsimp only at hSw); go_simp; try (with_reducible rfl))
        (try simp only [List.setIfInBounds_toArray, List.set_cons_zero, List.set_cons_succ])
        refine takeH (i := 11) 24 ?va11 rfl (by rfl) (by kernel_rfl) (by kernel_rfl) (by kernel_rfl) (fun _ _ _ h => h) (Or.inl ⟨by rfl, ?hya11⟩) (by assumption) ?resta11
        case hya11 => (intro w hSw; (try dsimp only at hSw); go_simp; try (with_reducible rfl))
        (try simp only [List.setIfInBounds_toArray, List.set_cons_zero, List.set_cons_succ])
        refine takeH (i := 12) 25 ?va12 rfl (by rfl) (by kernel_rfl) (by kernel_rfl) (by kernel_rfl) (fun _ _ _ h => h) (Or.inl ⟨by rfl, ?hya12⟩) (by assumption) ?resta12
        case hya12 => (intro w hSw; (try dsimp only at hSw); go_simp; try (with_reducible rfl))
        (try simp only [List.setIfInBounds_toArray, List.set_cons_zero, List.set_cons_succ])
        refine takeH (i := 13) 26 ?va13 rfl (by rfl) (by kernel_rfl) (by kernel_rfl) (by kernel_rfl) (fun _ _ _ h => h) (Or.inl ⟨by rfl, ?hya13⟩) (by assumption) ?resta13
        case hya13 => (intro w hSw; (try dsimp only at hSw); go_simp; try (with_reducible rfl))
        (try simp only [List.setIfInBounds_toArray, List.set_cons_zero, List.set_cons_succ])
        refine takeH (i := 14) 27 undef rfl (by rfl) (by kernel_rfl) (by kernel_rfl) (by kernel_rfl) (fun _ _ _ h => h) (Or.inr ⟨by rfl, rfl⟩) (by assumption) ?_
        (try simp only [List.setIfInBounds_toArray, List.set_cons_zero, List.set_cons_succ])
        refine takeH (i := 15) 28 undef rfl (by rfl) (by kernel_rfl) (by kernel_rfl) (by kernel_rfl) (fun _ _ _ h => h) (Or.inr ⟨by rfl, rfl⟩) (by assumption) ?_
        (try simp only [List.setIfInBounds_toArray, List.set_cons_zero, List.set_cons_succ])
        refine takeH (i := 16) 29 undef rfl (by rfl) (by kernel_rfl) (by kernel_rfl) (by kernel_rfl) (fun _ _ _ h => h) (Or.inr ⟨by rfl, rfl⟩) (by assumption) ?_
        (try simp only [List.setIfInBounds_toArray, List.set_cons_zero, List.set_cons_succ])
        refine takeH (i := 17) 30 undef rfl (by rfl) (by kernel_rfl) (by kernel_rfl) (by kernel_rfl) (fun _ _ _ h => h) (Or.inr ⟨by rfl, rfl⟩) (by assumption) ?_
        (try simp only [List.setIfInBounds_toArray, List.set_cons_zero, List.set_cons_succ])
        refine takeH (i := 18) 31 undef rfl (by rfl) (by kernel_rfl) (by kernel_rfl) (by kernel_rfl) (fun _ _ _ h => h) (Or.inr ⟨by rfl, rfl⟩) (by assumption) ?_
        (try simp only [List.setIfInBounds_toArray, List.set_cons_zero, List.set_cons_succ])
        refine takeH (i := 19) 32 undef rfl (by rfl) (by kernel_rfl) (by kernel_rfl) (by kernel_rfl) (fun _ _ _ h => h) (Or.inr ⟨by rfl, rfl⟩) (by assumption) ?_
        (try simp only [List.setIfInBounds_toArray, List.set_cons_zero, List.set_cons_succ])
        refine takeH (i := 20) 33 undef rfl (by rfl) (by kernel_rfl) (by kernel_rfl) (by kernel_rfl) (fun _ _ _ h => h) (Or.inr ⟨by rfl, rfl⟩) (by assumption) ?_
        (try simp only [List.setIfInBounds_toArray, List.set_cons_zero, List.set_cons_succ])
        refine takeH (i := 21) 34 undef rfl (by rfl) (by kernel_rfl) (by kernel_rfl) (by kernel_rfl) (fun _ _ _ h => h) (Or.inr ⟨by rfl, rfl⟩) (by assumption) ?_
        (try simp only [List.setIfInBounds_toArray, List.set_cons_zero, List.set_cons_succ])
        refine takeH (i := 22) 35 undef rfl (by rfl) (by kernel_rfl) (by kernel_rfl) (by kernel_rfl) (fun _ _ _ h => h) (Or.inr ⟨by rfl, rfl⟩) (by assumption) ?_
        (try simp only [List.setIfInBounds_toArray, List.set_cons_zero, List.set_cons_succ])
        refine takeH (i := 23) 36 undef rfl (by rfl) (by kernel_rfl) (by kernel_rfl) (by kernel_rfl) (fun _ _ _ h => h) (Or.inr ⟨by rfl, rfl⟩) (by assumption) ?_
        (try simp only [List.setIfInBounds_toArray, List.set_cons_zero, List.set_cons_succ])
        refine takeH (i := 24) 37 undef rfl (by rfl) (by kernel_rfl) (by kernel_rfl) (by kernel_rfl) (fun _ _ _ h => h) (Or.inr ⟨by rfl, rfl⟩) (by assumption) ?_
        (try simp only [List.setIfInBounds_toArray, List.set_cons_zero, List.set_cons_succ])
        refine takeH (i := 25) 38 undef rfl (by rfl) (by kernel_rfl) (by kernel_rfl) (by kernel_rfl) (fun _ _ _ h => h) (Or.inr ⟨by rfl, rfl⟩) (by assumption) ?_
        (try simp only [List.setIfInBounds_toArray, List.set_cons_zero, List.set_cons_succ])
        refine takeH (i := 26) 39 undef rfl (by rfl) (by kernel_rfl) (by kernel_rfl) (by kernel_rfl) (fun _ _ _ h => h) (Or.inr ⟨by rfl, rfl⟩) (by assumption) ?_
        (try simp only [List.setIfInBounds_toArray, List.set_cons_zero, List.set_cons_succ])
        refine takeH (i := 27) 40 undef rfl (by rfl) (by kernel_rfl) (by kernel_rfl) (by kernel_rfl) (fun _ _ _ h => h) (Or.inr ⟨by rfl, rfl⟩) (by assumption) ?_
        (try simp only [List.setIfInBounds_toArray, List.set_cons_zero, List.set_cons_succ])
        refine takeH (i := 28) 41 ?va28 rfl (by rfl) (by kernel_rfl) (by kernel_rfl) (by kernel_rfl) (fun _ _ _ h => h) (Or.inl ⟨by rfl, ?hya28⟩) (by assumption) ?resta28
        case hya28 => (intro w hSw; (try dsimp only at hSw); go_simp; try (with_reducible rfl))
        (try simp only [List.setIfInBounds_toArray, List.set_cons_zero, List.set_cons_succ])
        refine takeH (i := 29) 42 ?va29 rfl (by rfl) (by kernel_rfl) (by kernel_rfl) (by kernel_rfl) (fun _ _ _ h => h) (Or.inl ⟨by rfl, ?hya29⟩) (by assumption) ?resta29
        case hya29 => (intro w hSw; (try dsimp only at hSw); go_simp; try (with_reducible rfl))
        (try simp only [List.setIfInBounds_toArray, List.set_cons_zero, List.set_cons_succ])
        refine takeH (i := 30) 43 undef rfl (by rfl) (by kernel_rfl) (by kernel_rfl) (by kernel_rfl) (fun _ _ _ h => h) (Or.inr ⟨by rfl, rfl⟩) (by assumption) ?_
        (try simp only [List.setIfInBounds_toArray, List.set_cons_zero, List.set_cons_succ])
        refine takeH (i := 31) 44 undef rfl (by rfl) (by kernel_rfl) (by kernel_rfl) (by kernel_rfl) (fun _ _ _ h => h) (Or.inr ⟨by rfl, rfl⟩) (by assumption) ?_
        (try simp only [List.setIfInBounds_toArray, List.set_cons_zero, List.set_cons_succ])
        refine takeH (i := 32) 45 undef rfl (by rfl) (by kernel_rfl) (by kernel_rfl) (by kernel_rfl) (fun _ _ _ h => h) (Or.inr ⟨by rfl, rfl⟩) (by assumption) ?_
        (try simp only [List.setIfInBounds_toArray, List.set_cons_zero, List.set_cons_succ])
        refine takeH (i := 33) 46 undef rfl (by rfl) (by kernel_rfl) (by kernel_rfl) (by kernel_rfl) (fun _ _ _ h => h) (Or.inr ⟨by rfl, rfl⟩) (by assumption) ?_
        (try simp only [List.setIfInBounds_toArray, List.set_cons_zero, List.set_cons_succ])
        refine takeH (i := 34) 47 undef rfl (by rfl) (by kernel_rfl) (by kernel_rfl) (by kernel_rfl) (fun _ _ _ h => h) (Or.inr ⟨by rfl, rfl⟩) (by assumption) ?_
        (try simp only [List.setIfInBounds_toArray, List.set_cons_zero, List.set_cons_succ])
        refine takeH (i := 35) 48 undef rfl (by rfl) (by kernel_rfl) (by kernel_rfl) (by kernel_rfl) (fun _ _ _ h => h) (Or.inr ⟨by rfl, rfl⟩) (by assumption) ?_
        (try simp only [List.setIfInBounds_toArray, List.set_cons_zero, List.set_cons_succ])
        refine takeH (i := 36) 49 undef rfl (by rfl) (by kernel_rfl) (by kernel_rfl) (by kernel_rfl) (fun _ _ _ h => h) (Or.inr ⟨by rfl, rfl⟩) (by assumption) ?_
        (try simp only [List.setIfInBounds_toArray, List.set_cons_zero, List.set_cons_succ])
        refine takeH (i := 37) 50 undef rfl (by rfl) (by kernel_rfl) (by kernel_rfl) (by kernel_rfl) (fun _ _ _ h => h) (Or.inr ⟨by rfl, rfl⟩) (by assumption) ?_
        (try simp only [List.setIfInBounds_toArray, List.set_cons_zero, List.set_cons_succ])
        refine takeH (i := 38) 51 undef rfl (by rfl) (by kernel_rfl) (by kernel_rfl) (by kernel_rfl) (fun _ _ _ h => h) (Or.inr ⟨by rfl, rfl⟩) (by assumption) ?_
        (try simp only [List.setIfInBounds_toArray, List.set_cons_zero, List.set_cons_succ])
        refine takeH (i := 39) 52 undef rfl (by rfl) (by kernel_rfl) (by kernel_rfl) (by kernel_rfl) (fun _ _ _ h => h) (Or.inr ⟨by rfl, rfl⟩) (by assumption) ?_
        (try simp only [List.setIfInBounds_toArray, List.set_cons_zero, List.set_cons_succ])
        refine takeH (i := 40) 53 undef rfl (by rfl) (by kernel_rfl) (by kernel_rfl) (by kernel_rfl) (fun _ _ _ h => h) (Or.inr ⟨by rfl, rfl⟩) (by assumption) ?_
        (try simp only [List.setIfInBounds_toArray, List.set_cons_zero, List.set_cons_succ])
        refine takeH (i := 41) 54 undef rfl (by rfl) (by kernel_rfl) (by kernel_rfl) (by kernel_rfl) (fun _ _ _ h => h) (Or.inr ⟨by rfl, rfl⟩) (by assumption) ?_
        (try simp only [List.setIfInBounds_toArray, List.set_cons_zero, List.set_cons_succ])
        refine takeH (i := 42) 55 undef rfl (by rfl) (by kernel_rfl) (by kernel_rfl) (by kernel_rfl) (fun _ _ _ h => h) (Or.inr ⟨by rfl, rfl⟩) (by assumption) ?_
        (try simp only [List.setIfInBounds_toArray, List.set_cons_zero, List.set_cons_succ])
        refine takeH (i := 43) 56 undef rfl (by rfl) (by kernel_rfl) (by kernel_rfl) (by kernel_rfl) (fun _ _ _ h => h) (Or.inr ⟨by rfl, rfl⟩) (by assumption) ?_
        (try simp only [List.setIfInBounds_toArray, List.set_cons_zero, List.set_cons_succ])
        refine takeH (i := 44) 57 ?va44 rfl (by rfl) (by kernel_rfl) (by kernel_rfl) (by kernel_rfl) (fun _ _ _ h => h) (Or.inl ⟨by rfl, ?hya44⟩) (by assumption) ?resta44
        case hya44 => (intro w hSw; (try dsimp only at hSw); go_simp; try (with_reducible rfl))
        (try simp only [List.setIfInBounds_toArray, List.set_cons_zero, List.set_cons_succ])
        refine takeH (i := 45) 58 ?va45 rfl (by rfl) (by kernel_rfl) (by kernel_rfl) (by kernel_rfl) (fun _ _ _ h => h) (Or.inl ⟨by rfl, ?hya45⟩) (by assumption) ?resta45
        case hya45 => (intro w hSw; (try dsimp only at hSw); go_simp; try (with_reducible rfl))
        (try simp only [List.setIfInBounds_toArray, List.set_cons_zero, List.set_cons_succ])
        refine takeH (i := 46) 59 undef rfl (by rfl) (by kernel_rfl) (by kernel_rfl) (by kernel_rfl) (fun _ _ _ h => h) (Or.inr ⟨by rfl, rfl⟩) (by assumption) ?_
        (try simp only [List.setIfInBounds_toArray, List.set_cons_zero, List.set_cons_succ])
        refine takeH (i := 47) 60 undef rfl (by rfl) (by kernel_rfl) (by kernel_rfl) (by kernel_rfl) (fun _ _ _ h => h) (Or.inr ⟨by rfl, rfl⟩) (by assumption) ?_
        (try simp only [List.setIfInBounds_toArray, List.set_cons_zero, List.set_cons_succ])
        refine takeH (i := 48) 61 undef rfl (by rfl) (by kernel_rfl) (by kernel_rfl) (by kernel_rfl) (fun _ _ _ h => h) (Or.inr ⟨by rfl, rfl⟩) (by assumption) ?_
        (try simp only [List.setIfInBounds_toArray, List.set_cons_zero, List.set_cons_succ])
        refine takeH (i := 49) 62 undef rfl (by rfl) (by kernel_rfl) (by kernel_rfl) (by kernel_rfl) (fun _ _ _ h => h) (Or.inr ⟨by rfl, rfl⟩) (by assumption) ?_
        (try simp only [List.setIfInBounds_toArray, List.set_cons_zero, List.set_cons_succ])
        refine takeH (i := 50) 63 undef rfl (by rfl) (by kernel_rfl) (by kernel_rfl) (by kernel_rfl) (fun _ _ _ h => h) (Or.inr ⟨by rfl, rfl⟩) (by assumption) ?_
        (try simp only [List.setIfInBounds_toArray, List.set_cons_zero, List.set_cons_succ])
        refine takeH (i := 51) 64 undef rfl (by rfl) (by kernel_rfl) (by kernel_rfl) (by kernel_rfl) (fun _ _ _ h => h) (Or.inr ⟨by rfl, rfl⟩) (by assumption) ?_
        (try simp only [List.setIfInBounds_toArray, List.set_cons_zero, List.set_cons_succ])
        refine takeH (i := 52) 65 undef rfl (by rfl) (by kernel_rfl) (by kernel_rfl) (by kernel_rfl) (fun _ _ _ h => h) (Or.inr ⟨by rfl, rfl⟩) (by assumption) ?_
        (try simp only [List.setIfInBounds_toArray, List.set_cons_zero, List.set_cons_succ])
        refine takeH (i := 53) 66 ?va53 rfl (by rfl) (by kernel_rfl) (by kernel_rfl) (by kernel_rfl) (fun _ _ _ h => h) (Or.inl ⟨by rfl, ?hya53⟩) (by assumption) ?resta53
        case hya53 => (intro w hSw; (try dsimp only at hSw); go_simp; try (with_reducible rfl))
        (try simp only [List.setIfInBounds_toArray, List.set_cons_zero, List.set_cons_succ])
        refine wpAnyH_done (by kernel_rfl) ?_ _
        go_wp2
        go_ret
        exact ⟨false, rfl, (fun h => by cases h), HB.out.drew⟩
    · obtain rfl : k = E.length := by omega
      go_wp2
      go_ret
      exact ⟨true, rfl, fun _ j e h => HA.out j e (by have := (List.getElem?_eq_some_iff.1 h).1; omega) h, HB.out⟩
end Go.Proofs.YthmijakellfbiaaDoor
