/-
  std.trim and std.isEmpty at a text; FnTrimAgain says yes. Conditions: the two tables of the library's lie there.
-/
import Derived.Test.YtohhcmcelofgeaaDoorTrimB
namespace Go.Proofs.YtohhcmcelofgeaaDoor
open Go.RowKit
set_option linter.unusedVariables false
set_option linter.unusedSimpArgs false

def FlatTo (w : World) (l : List Nat) (e : Ending) (w' : World) : Prop := ∃ v, e = .returned (.tuple #[v, .nilIface]) ∧ Flat w' v l ∧ Below w.heap.size w w'
set_option maxRecDepth 100000 in
theorem btrim_any (i v : Value) (s : ByteArray) (l : List Nat) (h : Is s l) (hs : s.size ≤ 10000) (w : World) (hT : Tabs w) (hf : Flat w v l) :
    Calls Tryd.prog 16 #[i, v] w (FlatTo w (trm l)) := by
  obtain ⟨p, rfl, hc⟩ := go_any v s l h w hf
  have HC := Lib.hid hc
  have HT := Lib.hid hT
  have H := Lib.hid h
  clear hc hf h hT
  go_enter Tryd.func16, Tryd.ntmps16
  go_wp2_with (go_at_call 20; refine (getStr_any _ _ _).mono ?_; rintro e w' ⟨rfl, rfl⟩)
  rw [go_meth _ _ _ (by kernel_rfl)]
  go_wp2_with (go_at_call 56; refine HC.out.mono ?_; rintro e w' ⟨rfl, rfl⟩)
  go_at_call 22
  refine (trim_any s l H.out hs w HT.out).mono ?_
  rintro e w1 ⟨t, rfl, ht, hts, hb1⟩
  have HI := Lib.hid ht
  have HB1 := Lib.hid hb1
  have hs1 := hb1.size
  clear ht hb1
  go_wp2_with fail
  go_at_call 21
  refine (made t (trm l) HI.out (by omega) w1).mono ?_
  rintro e w2 ⟨v2, rfl, hf2, hb2⟩
  have HF2 := Lib.hid hf2
  have HB2 := Lib.hid (HB1.out.trans (hb2.mono hs1))
  clear hf2 hb2
  go_wp2
  go_ret2
  exact ⟨_, rfl, HF2.out, HB2.out⟩

def PartTo (w : World) (l : List Nat) (n : Nat) (u : Value) (e : Ending) (w' : World) : Prop := ∃ t, e = .returned (.tuple #[.string t, u]) ∧ Is t l ∧ t.size ≤ n ∧ Below w.heap.size w w'
theorem trm_le (l : List Nat) {s t : ByteArray} (h : Is s l) (k : Is t (trm l)) : t.size ≤ s.size := by
  obtain ⟨p, q, e⟩ := trm_part l
  have := h.size
  rw [e] at this
  rw [this, k.size]
  simp
  omega
theorem made_text {l : List Nat} (h : ∀ x ∈ l, Sc x) : ∃ t : ByteArray, Is t l := by
  refine ⟨runesBytes (l.map fun n : Nat => (n : Int)), ?_, h⟩
  unfold runesBytes
  rw [bl_fold l _ h]
  rfl
theorem trm_text {l : List Nat} {s : ByteArray} (h : Is s l) : ∃ t : ByteArray, Is t (trm l) := by
  obtain ⟨p, q, e⟩ := trm_part l
  exact made_text fun x hx => h.2 x (by rw [e]; simp [hx])

set_option maxRecDepth 100000 in
theorem ptrim_any (s : ByteArray) (l : List Nat) (h : Is s l) (hs : s.size ≤ 10000) (w : World) (hT : Tabs w) :
    Calls Tryd.prog 10 #[.string s] w (PartTo w (trm l) s.size .nilIface) := by
  have H := Lib.hid h
  have HT := Lib.hid hT
  clear h hT
  go_enter Tryd.func10, Tryd.ntmps10
  go_wp2_with fail
  go_at_call 17
  refine (str_any s l H.out hs _).mono ?_
  rintro e w1 ⟨v, rfl, hf, hb⟩
  have hb0 : Below w.heap.size w w1 := ((Below.refl _ _).alloc (Nat.le_refl _) _).trans (hb.mono (by simp))
  have HB0 := Lib.hid hb0
  have hs0 := hb0.size
  have HF := Lib.hid hf
  clear hf hb hb0
  go_wp2_with fail
  go_at_call 16
  refine (btrim_any _ v s l H.out hs w1 (HT.out.below HB0.out) HF.out).mono ?_
  rintro e w2 ⟨v2, rfl, hf2, hb2⟩
  have HF2 := Lib.hid hf2
  have HB2 := Lib.hid (HB0.out.trans (hb2.mono hs0))
  obtain ⟨t, ht⟩ := trm_text H.out
  have HI := Lib.hid ht
  have hts := trm_le l H.out ht
  clear hf2 hb2 ht
  go_wp2_with fail
  go_at_call 15
  refine (strOf_any v2 t (trm l) HI.out w2 HF2.out).mono ?_
  rintro e w' ⟨rfl, rfl⟩
  go_wp2
  go_ret2
  exact ⟨t, rfl, HI.out, hts, HB2.out⟩
set_option maxRecDepth 100000 in
theorem ttrim_any (s : ByteArray) (l : List Nat) (h : Is s l) (hs : s.size ≤ 10000) (w : World) (hT : Tabs w) :
    Calls Tryd.prog 5 #[.string s] w (PartTo w (trm l) s.size (.bool true)) := by
  have H := Lib.hid h
  have HT := Lib.hid hT
  clear h hT
  go_enter Tryd.func5, Tryd.ntmps5
  go_wp2_with fail
  go_at_call 10
  refine (ptrim_any s l H.out hs w HT.out).mono ?_
  rintro e w1 ⟨t, rfl, ht, hts, hb⟩
  have HI := Lib.hid ht
  have HB := Lib.hid hb
  clear ht hb
  go_wp2_with (go_at_call 9; refine (text_any t w1).mono ?_; rintro e w' ⟨rfl, rfl⟩)
  go_ret2
  exact ⟨t, rfl, HI.out, hts, HB.out⟩

/-! ### std.isEmpty -/
def BoolAt (w : World) (v : Value) (b : Bool) : Prop := ∃ p : Nat, v = .iface 82 (.pointer (some ⟨p, 0, none⟩)) ∧ p < w.heap.size ∧ w.cell? ⟨p, 0, none⟩ = some (.bool b)
def BoolTo (w : World) (b : Bool) (e : Ending) (w' : World) : Prop := ∃ v, e = .returned (.tuple #[v, .nilIface]) ∧ BoolAt w' v b ∧ Below w.heap.size w w'
def empt (s : ByteArray) : Bool := decide (s.size = 0)
set_option maxRecDepth 100000 in
theorem mkbool_any (b : Bool) (w : World) : Calls Tryd.prog 23 #[.bool b] w fun e w' => e = .returned (.pointer (some ⟨w.heap.size, 0, none⟩)) ∧ w' = w.alloc (.cells #[.bool b] 81) := by
  go_enter Tryd.func23, Tryd.ntmps23
  go_wp2
  go_ret
  exact ⟨rfl, rfl⟩
set_option maxRecDepth 100000 in
theorem bempty_any (i v : Value) (s : ByteArray) (l : List Nat) (h : Is s l) (hs : s.size ≤ 10000) (w : World) (hf : Flat w v l) :
    Calls Tryd.prog 19 #[i, v] w (BoolTo w (empt s)) := by
  obtain ⟨p, rfl, hc⟩ := go_any v s l h w hf
  have HC := Lib.hid hc
  clear hc hf h
  have he : ((s.size : Int) == 0) = empt s := by unfold empt; rw [Bool.eq_iff_iff]; simp
  have HE := Lib.hid he
  clear he
  go_enter Tryd.func19, Tryd.ntmps19
  go_wp2_with (go_at_call 20; refine (getStr_any _ _ _).mono ?_; rintro e w' ⟨rfl, rfl⟩)
  rw [go_meth _ _ _ (by kernel_rfl)]
  go_wp2_with (go_at_call 56; refine HC.out.mono ?_; rintro e w' ⟨rfl, rfl⟩)
  go_at_call 23
  rw [HE.out]
  refine (mkbool_any (empt s) w).mono ?_
  rintro e w1 ⟨rfl, rfl⟩
  go_wp2
  go_ret2
  exact ⟨_, rfl, ⟨w.heap.size, rfl, by simp, by simp [go_sem]⟩, (Below.refl _ _).alloc (Nat.le_refl _) _⟩
set_option maxRecDepth 100000 in
theorem boolOf_any (v : Value) (b : Bool) (w : World) (h : BoolAt w v b) : Calls Tryd.prog 18 #[v, .nilIface] w fun e w' => e = .returned (.tuple #[.bool b, .nilIface]) ∧ w = w' := by
  obtain ⟨p, rfl, hp, hc⟩ := h
  have ht : ∀ w, (Instr.typeAssert (.iface 82 (.pointer (some ⟨p, 0, none⟩))) 44 82 false).run Tryd.prog w = .ok (.pointer (some ⟨p, 0, none⟩)) w := fun _ => by kernel_rfl
  go_enter Tryd.func18, Tryd.ntmps18
  go_wp2
  go_ret2
  exact ⟨rfl, rfl⟩
set_option maxRecDepth 100000 in
theorem pempty_any (s : ByteArray) (l : List Nat) (h : Is s l) (hs : s.size ≤ 10000) (w : World) :
    Calls Tryd.prog 13 #[.string s] w fun e w' => e = .returned (.tuple #[.bool (empt s), .nilIface]) ∧ Below w.heap.size w w' := by
  have H := Lib.hid h
  clear h
  go_enter Tryd.func13, Tryd.ntmps13
  go_wp2_with fail
  go_at_call 17
  refine (str_any s l H.out hs _).mono ?_
  rintro e w1 ⟨v, rfl, hf, hb⟩
  have hb0 : Below w.heap.size w w1 := ((Below.refl _ _).alloc (Nat.le_refl _) _).trans (hb.mono (by simp))
  have HB0 := Lib.hid hb0
  have hs0 := hb0.size
  have HF := Lib.hid hf
  clear hf hb hb0
  go_wp2_with fail
  go_at_call 19
  refine (bempty_any _ v s l H.out hs w1 HF.out).mono ?_
  rintro e w2 ⟨v2, rfl, hf2, hb2⟩
  have HF2 := Lib.hid hf2
  have HB2 := Lib.hid (HB0.out.trans (hb2.mono hs0))
  clear hf2 hb2
  go_wp2_with fail
  go_at_call 18
  refine (boolOf_any v2 (empt s) w2 HF2.out).mono ?_
  rintro e w' ⟨rfl, rfl⟩
  go_wp2
  go_ret2
  exact ⟨rfl, HB2.out⟩
set_option maxRecDepth 100000 in
theorem tempty_any (s : ByteArray) (l : List Nat) (h : Is s l) (hs : s.size ≤ 10000) (w : World) :
    Calls Tryd.prog 7 #[.string s] w fun e w' => e = .returned (.tuple #[.bool (empt s), .bool true]) ∧ Below w.heap.size w w' := by
  have H := Lib.hid h
  clear h
  go_enter Tryd.func7, Tryd.ntmps7
  go_wp2_with fail
  go_at_call 13
  refine (pempty_any s l H.out hs w).mono ?_
  rintro e w1 ⟨rfl, hb⟩
  have HB := Lib.hid hb
  clear hb
  go_wp2_with (go_at_call 12; refine (truth_any _ w1).mono ?_; rintro e w' ⟨rfl, rfl⟩)
  go_ret2
  exact ⟨rfl, HB.out⟩

/-! ### parts -/
def Stands (x : List Nat) (k : Nat) (y : List Nat) : Prop := ∀ j, j < y.length → rune x (k + j) = rune y j
def StandTo (w : World) (x : List Nat) (k : Nat) (y : List Nat) (e : Ending) (w' : World) : Prop := ∃ b, e = .returned (.bool b) ∧ (k + y.length ≤ x.length → Stands x k y → b = true) ∧ ∃ n, w' = w.drewN n
theorem holds_cells {B : Nat} {w : World} {v : Value} {x : List Nat} (h : Holds B w v x) : ∃ g cap : Nat, v = .slice (some ⟨g, 0, none⟩) x.length cap ∧ ∀ j, j < x.length → w.cell? ⟨g, j, none⟩ = some (.int .i64 (rune x j)) := by
  obtain ⟨g, cap, rfl, h⟩ := h
  exact ⟨g, cap, rfl, fun j hj => by
    rw [h.cellAt j (by omega)]
    simp [ints, rune, hj]⟩
def CellsAt (w : World) (g : Nat) (x : List Nat) : Prop := ∀ j, j < x.length → w.cell? ⟨g, j, none⟩ = some (.int .i64 (rune x j))
set_option maxHeartbeats 1000000 in
set_option maxRecDepth 100000 in
theorem stands_any (g g' cap cap' : Nat) (x y : List Nat) (k : Nat) (w : World) (hx : x.length ≤ 10000) (hy : y.length ≤ 10000) (hk : k ≤ x.length) (ha : CellsAt w g x) (hb : CellsAt w g' y) :
    Calls Tryd.prog 14 #[.slice (some ⟨g, 0, none⟩) x.length cap, .int .i64 k, .slice (some ⟨g', 0, none⟩) y.length cap'] w (StandTo w x k y) := by
  have HA := Lib.hid ha
  have HB := Lib.hid hb
  clear ha hb
  by_cases hf : k + y.length ≤ x.length
  · have z1 : ¬ (x.length : Int) < (k : Int) + (y.length : Int) := by omega
    go_enter Tryd.func14, Tryd.ntmps14
    go_wp2
    go_loopw [7] (fun i wr => ∃ m n : Nat, m ≤ y.length ∧ i = .int .i64 m ∧ wr = w.drewN n) (fun i _ => y.length - (intOf i).toNat)
    case atStart => exact ⟨0, 0, by omega, rfl, rfl⟩
    case round =>
      obtain ⟨m, n, hm, rfl, rfl⟩ := hrel
      by_cases hlt : m < y.length
      · have hc1 := HA.out (k + m) (by omega)
        have hc2 := HB.out m hlt
        have i1 : IntKind.i64.wrap ((k : Int) + (m : Int)) = (k : Int) + (m : Int) := by rw [IntKind.wrap_i64]; omega
        have i2 : (0 : Int) ≤ (k : Int) + (m : Int) := by omega
        have i3 : (k : Int) + (m : Int) < (x.length : Int) := by omega
        have i4 : ((k : Int) + (m : Int)).toNat = k + m := by omega
        have i5 : (m : Int) < (y.length : Int) := by omega
        by_cases he : rune x (k + m) = rune y m
        · have hq : (rune x (k + m) != rune y m) = false := by simp [he]
          clear he
          go_wp2
          go_quiet (fail)
          clear i1 i4
          go_wp2
          go_roundw
          case rel => exact ⟨m + 1, _, by omega, by go_num, rfl⟩
          case measure => simp [intOf]; omega
        · have hq : (rune x (k + m) != rune y m) = true := by simp [he]
          have HN : Hid (¬ Stands x k y) := fun h => he (h m hlt)
          clear he
          go_wp2
          go_quiet (fail)
          clear i1 i4
          go_wp2
          go_ret
          refine ⟨_, rfl, fun _ h => absurd h HN.out, ?_⟩
          simp only [World.drewN_drewN]
          exact ⟨_, rfl⟩
      · go_wp2
        go_ret
        exact ⟨_, rfl, fun _ _ => rfl, n, rfl⟩
  · have z1 : (x.length : Int) < (k : Int) + (y.length : Int) := by omega
    go_enter Tryd.func14, Tryd.ntmps14
    go_wp2
    go_ret
    exact ⟨_, rfl, fun h => absurd h hf, 0, rfl⟩
theorem CellsAt.drewN {w : World} {g : Nat} {x : List Nat} (h : CellsAt w g x) (n : Nat) : CellsAt (w.drewN n) g x := h
theorem stands_part (p u q : List Nat) : Stands (p ++ (u ++ q)) p.length u := fun j hj => by
  unfold rune
  simp only [List.getD_eq_getElem?_getD]
  rw [List.getElem?_append_right (by omega), Nat.add_sub_cancel_left, List.getElem?_append_left hj]
set_option maxHeartbeats 1000000 in
set_option maxRecDepth 100000 in
theorem contains_any (g g' cap cap' : Nat) (x y : List Nat) (w : World) (hx : x.length ≤ 10000) (hy : y.length ≤ 10000) (ha : CellsAt w g x) (hb : CellsAt w g' y) (hp : ∃ p q, x = p ++ (y ++ q)) :
    Calls Tryd.prog 8 #[.slice (some ⟨g, 0, none⟩) x.length cap, .slice (some ⟨g', 0, none⟩) y.length cap'] w fun e w' => e = .returned (.bool true) ∧ ∃ n, w' = w.drewN n := by
  obtain ⟨k0, h0, hst⟩ : ∃ k0, k0 + y.length ≤ x.length ∧ Stands x k0 y := by
    obtain ⟨p, q, e⟩ := hp
    exact ⟨p.length, by rw [e]; simp only [List.length_append]; omega, by rw [e]; exact stands_part p y q⟩
  have HA := Lib.hid ha
  have HB := Lib.hid hb
  have HS := Lib.hid hst
  clear ha hb hst hp
  go_enter Tryd.func8, Tryd.ntmps8
  go_wp2
  go_loopw [5] (fun i wr => ∃ k n : Nat, k ≤ k0 ∧ i = .int .i64 k ∧ wr = w.drewN n) (fun i _ => k0 + 1 - (intOf i).toNat)
  case atStart => exact ⟨0, 0, by omega, rfl, rfl⟩
  case round =>
    obtain ⟨k, n, hk, rfl, rfl⟩ := hrel
    have z1 : k ≤ x.length := by omega
    have z2 : (k : Int) ≤ (x.length : Int) := by omega
    go_wp2_with fail
    go_at_call 14
    refine (stands_any g g' cap cap' x y k _ hx hy z1 (HA.out.drewN n) (HB.out.drewN n)).mono ?_
    rintro e w1 ⟨b, rfl, hbt, n1, rfl⟩
    have HBT := Lib.hid hbt
    clear hbt
    cases b
    · have hne : k < k0 := by
        rcases Nat.lt_or_ge k k0 with h | h
        · exact h
        · have : k = k0 := by omega
          subst this
          exact absurd (HBT.out h0 HS.out) (by simp)
      go_wp2
      go_roundw
      case rel => exact ⟨k + 1, _, by omega, by go_num, by first | rfl | (simp only [World.drewN_drewN]; rfl)⟩
      case measure => simp [intOf]; omega
    · go_wp2
      go_ret
      refine ⟨rfl, ?_⟩
      first
        | exact ⟨_, rfl⟩
        | (simp only [World.drewN_drewN]; exact ⟨_, rfl⟩)

/-! ### the law -/
theorem Told.is {s : ByteArray} (h : Told s) : ∃ l, Is s l := by
  obtain ⟨_, l, hl⟩ := h
  exact ⟨l, hl.is⟩
set_option maxHeartbeats 1000000 in
set_option maxRecDepth 100000 in
theorem walk_yes (s : ByteArray) (l : List Nat) (hs : s.size ≤ 2000) (h : Is s l) (w : World) (hT : Tabs w) :
    Calls Tryd.prog 3 #[.string s] w fun e w' => e = .returned (.bool true) ∧ Below w.heap.size w w' := by
  have H := Lib.hid h
  have HT := Lib.hid hT
  have hll := h.read.le.2
  clear h hT
  go_enter Tryd.func3, Tryd.ntmps3
  go_wp2_with fail
  go_at_call 4
  refine (units9_yes s ⟨hs, l, H.out.read⟩ w).mono ?_
  rintro e w1 ⟨l', v, hr, rfl, hh, hb1⟩
  obtain rfl : l = l' := H.out.read.unique hr
  obtain ⟨g, cap, rfl, hc⟩ := holds_cells hh
  have HC1 := Lib.hid hc
  have HB1 := Lib.hid hb1
  have hs1 := hb1.size
  have hg1 : ∀ j, j < l.length → g < w1.heap.size := fun j hj => World.block_lt_of_cell? _ _ (hc j hj)
  have HG1 := Lib.hid hg1
  clear hr hh hc hb1 hg1
  go_wp2_with fail
  go_at_call 5
  refine (ttrim_any s l H.out (by omega) w1 (HT.out.below HB1.out)).mono ?_
  rintro e w2 ⟨t, rfl, ht, hts, hb2⟩
  have HI := Lib.hid ht
  have HC2 : Hid (CellsAt w2 g l) := fun j hj => (hb2.cell (p := ⟨g, j, none⟩) (HG1.out j hj)).trans (HC1.out j hj)
  have HB2 := Lib.hid (HB1.out.trans (hb2.mono hs1))
  have hs2 := HB2.out.size
  have hb2s := hb2.size
  have HG2 : Hid (∀ j, j < l.length → g < w2.heap.size) := fun j hj => by have := HG1.out j hj; omega
  clear ht hb2
  go_wp2_with fail
  go_at_call 5
  refine (ttrim_any t (trm l) HI.out (by omega) w2 (HT.out.below HB2.out)).mono ?_
  rintro e w3 ⟨t', rfl, ht', hts', hb3⟩
  rw [trm_trm] at ht'
  obtain rfl : t = t' := HI.out.inj ht'
  have HC3 : Hid (CellsAt w3 g l) := fun j hj => (hb3.cell (p := ⟨g, j, none⟩) (HG2.out j hj)).trans (HC2.out j hj)
  have HB3 := Lib.hid (HB2.out.trans (hb3.mono hs2))
  have hs3 := HB3.out.size
  have hb3s := hb3.size
  have HG3 : Hid (∀ j, j < l.length → g < w3.heap.size) := fun j hj => by have := HG2.out j hj; omega
  clear ht' hts' hb3
  go_wp2_with fail
  go_at_call 6
  refine (units_any t (by omega) w3).mono ?_
  rintro e w4 (⟨u, v4, hr4, rfl, hh4, hb4⟩ | ⟨hno, rfl, hb4⟩)
  case inr => exact absurd HI.out.read (hno _)
  obtain rfl : trm l = u := HI.out.read.unique hr4
  obtain ⟨g4, cap4, rfl, hc4⟩ := holds_cells hh4
  have hul : (trm l).length ≤ 10000 := by have := hr4.le.2; omega
  have HC4 : Hid (CellsAt w4 g4 (trm l)) := hc4
  have HC4b : Hid (CellsAt w4 g l) := fun j hj => (hb4.cell (p := ⟨g, j, none⟩) (HG3.out j hj)).trans (HC3.out j hj)
  have HB4 := Lib.hid (HB3.out.trans (hb4.mono hs3))
  have hs4 := HB4.out.size
  have hb4s := hb4.size
  have HG4 : Hid (∀ j, j < l.length → g < w4.heap.size) := fun j hj => by have := HG3.out j hj; omega
  have HG4b : Hid (∀ j, j < (trm l).length → g4 < w4.heap.size) := fun j hj => World.block_lt_of_cell? _ _ (hc4 j hj)
  clear hr4 hh4 hc4 hb4
  go_wp2_with fail
  go_at_call 7
  refine (tempty_any s l H.out (by omega) w4).mono ?_
  rintro e w5 ⟨rfl, hb5⟩
  have HC5 : Hid (CellsAt w5 g4 (trm l)) := fun j hj => (hb5.cell (p := ⟨g4, j, none⟩) (HG4b.out j hj)).trans (HC4.out j hj)
  have HC5b : Hid (CellsAt w5 g l) := fun j hj => (hb5.cell (p := ⟨g, j, none⟩) (HG4.out j hj)).trans (HC4b.out j hj)
  have HB5 := Lib.hid (HB4.out.trans (hb5.mono hs4))
  clear hb5
  have HP := Lib.hid (trm_part l)
  obtain ⟨b, hb⟩ : ∃ b, b = empt s := ⟨_, rfl⟩
  rw [← hb]
  have HBb := Lib.hid hb
  clear hb
  go_wp2_with fail
  go_at_call 8
  refine (contains_any g g4 cap cap4 l (trm l) w5 (by omega) hul HC5b.out HC5.out HP.out).mono ?_
  rintro e w6 ⟨rfl, n, rfl⟩
  by_cases h0 : s.size = 0
  · have hb0 : b = true := by rw [HBb.out]; simp [empt, h0]
    subst hb0
    have he : s.toList.isEmpty = true := by
      rw [Lib.toList_data]
      have : s.data.toList = [] := List.eq_nil_of_length_eq_zero (by rw [← Lib.size_eq]; exact h0)
      rw [this]; rfl
    have he2 : s.toList = [] := by simpa using he
    clear h0
    go_wp2
    go_ret
    exact ⟨by first | rfl | simp [he2], HB5.out.os, HB5.out.tape, HB5.out.output, HB5.out.size, HB5.out.block⟩
  · have hb0 : b = false := by rw [HBb.out]; simp [empt, h0]
    subst hb0
    have he2 : ¬ s.toList = [] := by
      intro h
      have : s.toList.length = s.size := by rw [Lib.toList_data]; exact (Lib.size_eq s).symm
      rw [h] at this; simp at this; omega
    have he : s.toList.isEmpty = false := by simpa using he2
    clear h0
    go_wp2
    go_ret
    exact ⟨by first | rfl | simp [he2], HB5.out.os, HB5.out.tape, HB5.out.output, HB5.out.size, HB5.out.block⟩
set_option maxRecDepth 100000 in
theorem walk_no (s : ByteArray) (hs : s.size ≤ 2147483647) (hn : ¬ Told s) (w : World) :
    Calls Tryd.prog 3 #[.string s] w fun e w' => e = .returned (.bool true) ∧ Below w.heap.size w w' := by
  have HN := Lib.hid hn
  clear hn
  go_enter Tryd.func3, Tryd.ntmps3
  go_wp2_with fail
  go_at_call 4
  refine (units9_no s (by unfold maxLen; omega) HN.out w).mono ?_
  rintro e w1 ⟨rfl, hb⟩
  have HB := Lib.hid hb
  clear hb
  go_wp2
  go_ret
  exact ⟨rfl, HB.out⟩
theorem walk_big (s : ByteArray) (hm : s.size ≤ 9223372036854775807) (hs : 2147483647 < s.size) (w : World) :
    Calls Tryd.prog 3 #[.string s] w fun e w' => e = .returned (.bool true) ∧ Below w.heap.size w w' := by
  go_enter Tryd.func3, Tryd.ntmps3
  go_wp2
  go_ret
  exact ⟨rfl, Below.refl _ _⟩
theorem walk (s : ByteArray) (hm : s.size ≤ maxLen) (w : World) (hT : Tabs w) :
    Calls Tryd.prog 3 #[.string s] w fun e w' => e = .returned (.bool true) ∧ Below w.heap.size w w' := by
  by_cases hs : s.size ≤ 2147483647
  · by_cases ht : Told s
    · obtain ⟨l, hl⟩ := ht.is
      exact walk_yes s l ht.1 hl w hT
    · exact walk_no s hs ht w
  · exact walk_big s (by unfold maxLen at hm; omega) (by omega) w
end Go.Proofs.YtohhcmcelofgeaaDoor
