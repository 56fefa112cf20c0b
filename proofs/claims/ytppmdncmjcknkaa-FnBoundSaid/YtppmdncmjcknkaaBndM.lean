/-
  FnBound says yes. Conditions: none.
-/
import Derived.Test.YtppmdncmjcknkaaBndL
import Derived.Test.YtppmdncmjcknkaaOpen
namespace Go.Proofs.Ytppmdncmjcknkaa
open Go.ChangeShapes Go.WideShapes Go.RowKit
set_option linter.unusedVariables false
set_option linter.unusedSimpArgs false

theorem own_cell_int {w : World} {base c m k : Nat} {A : Option Addr} {l : List Int} (ho : w.ownsRow base 3 1 (.slice A m c) m (ints l)) (hl : l.length = m) (hk : k < m) :
    ∃ g, A = some ⟨g, 0, none⟩ ∧ g < w.heap.size ∧ w.cell? ⟨g, k, none⟩ = some (.int .i64 (l.getD k (-1))) := by
  obtain ⟨g, cap, hv, hgb, hgl⟩ := ho.form (by omega)
  injection hv with hA1 _ hc1
  subst hA1
  subst hc1
  exact ⟨g, rfl, hgl, (ho.cellAt k (by omega)).trans (ints_at (by omega))⟩

set_option maxRecDepth 100000 in
set_option maxHeartbeats 1600000 in
theorem walkBnd (A An : Option Addr) (c cn : Nat) (P N : List ByteArray) (pos : Int) (w : World) (h : Reads w w.heap.size 1 A P.length (strs P)) (hN' : Reads w w.heap.size 1 An N.length (strs N)) :
    Calls Try.prog 3 #[.slice A P.length c, .int .i64 pos, .slice An N.length cn] w fun e w' => e = .returned (.bool true) ∧ Below w.heap.size w w' := by
  have HR := Lib.hid h
  have HN := Lib.hid hN'
  clear h hN'
  go_enter Try.func3, Try.ntmps3
  go_wp2_with fail
  go_at_call 5
  refine (fits5 A c P w HR.out).mono ?_
  rintro e' w' ⟨b, rfl, rfl⟩
  cases b
  · go_wp2
    go_ret
    exact ⟨rfl, Below.refl _ _⟩
  go_wp2_with fail
  go_at_call 5
  refine (fits5 An cn N w HN.out).mono ?_
  rintro e' w' ⟨b, rfl, rfl⟩
  cases b
  · go_wp2
    go_ret
    exact ⟨rfl, Below.refl _ _⟩
  go_wp2_with fail
  go_at_call 6
  refine (calls_any A An c cn P N pos w HR.out HN.out).mono ?_
  rintro e' w1 ⟨b, rfl, hok, hb1⟩
  have HB1 := Lib.hid hb1
  have hs1 := hb1.size
  have Hok := Lib.hid hok
  clear hb1 hok
  cases b
  · go_wp2
    go_ret
    exact ⟨rfl, HB1.out⟩
  have HC := Lib.hid (Hok.out rfl)
  clear Hok
  obtain ⟨n, hn⟩ : ∃ n : Nat, pos = (n : Int) := ⟨pos.toNat, by have := HC.out.2.2.1; omega⟩
  subst hn
  have hn2 : n ≤ 200 := by have := HC.out.2.2.2; omega
  have hP := HC.out.1.1
  have hNl := HC.out.2.1.1
  have HA := Lib.hid HC.out.1.2.2
  clear HC
  go_wp2_with fail
  go_at_call 7
  refine (given_any n hn2 A An c cn P N hP hNl w1 ((HR.out.below HB1.out).more hs1) ((HN.out.below HB1.out).more hs1)).mono ?_
  cases hg : given P n N with
  | none =>
    rintro e' w2 ⟨rfl, hb2⟩
    have HB2 := Lib.hid (HB1.out.trans (hb2.mono hs1))
    have hs2 := HB2.out.size
    have HG := Lib.hid hg
    clear hg hb2
    go_wp2
    refine wp_loop_rounds 1 ?_
    rw [rounds_succ]
    go_wp2_with fail
    go_at_call 8
    refine (bound_any n hn2 A An c cn P N hP hNl HA.out w2 ((HR.out.below HB2.out).more hs2) ((HN.out.below HB2.out).more hs2)).mono ?_
    rw [HG.out]
    rintro e' w3 ⟨rfl, hb3⟩
    have HB3 := Lib.hid (HB2.out.trans (hb3.mono hs2))
    clear hb3
    go_wp2
    refine wp_loop_rounds 1 ?_
    rw [rounds_succ]
    go_wp2
    go_ret
    exact ⟨rfl, HB3.out⟩
  | some l =>
    rintro e' w2 ⟨v, rfl, ho, hb2⟩
    have HB2 := Lib.hid (HB1.out.trans (hb2.mono hs1))
    have hs2 := HB2.out.size
    have HG := Lib.hid hg
    have hll := given_len hg
    obtain ⟨Av, cv, rfl, hcv⟩ := own_form ho
    have Ho := Lib.hid ho
    clear hg hb2 ho
    go_wp2
    go_loop [9] (fun i => ∃ k : Nat, k ≤ l.length ∧ i = .int .i64 k) (fun i => l.length - (intOf i).toNat)
    case atStart => exact ⟨0, by omega, rfl⟩
    case round =>
      obtain ⟨k, hk, rfl⟩ := hrel
      by_cases hlt : k < l.length
      · obtain ⟨g, rfl, hgl, hc⟩ := own_cell_int Ho.out rfl hlt
        by_cases hneg : l.getD k (-1) < 0
        · have d0 : decide (l.getD k (-1) < 0) = true := decide_eq_true hneg
          generalize l.getD k (-1) = y at *
          go_wp2
          go_ret
          exact ⟨rfl, HB2.out⟩
        · have d0 : decide (l.getD k (-1) < 0) = false := decide_eq_false hneg
          generalize l.getD k (-1) = y at *
          go_wp2
          go_round
          case rel => exact ⟨k + 1, by omega, by go_num⟩
          case measure => simp [intOf]; omega
      · obtain rfl : l.length = k := by omega
        go_wp2_with fail
        go_at_call 8
        refine (bound_any n hn2 A An c cn P N hP hNl HA.out w2 ((HR.out.below HB2.out).more hs2) ((HN.out.below HB2.out).more hs2)).mono ?_
        rw [HG.out]
        rintro e' w3 ⟨v, rfl, ho3, hb3⟩
        have HB3 := Lib.hid (HB2.out.trans (hb3.mono hs2))
        have Ho4 := Lib.hid (ownsRow_below Ho.out hb3)
        obtain ⟨Aw, cw, rfl, hcw⟩ := own_form ho3
        have Ho3 := Lib.hid ho3
        clear hb3 ho3
        go_wp2
        go_loopw [11] (fun i wr => ∃ k m : Nat, k ≤ l.length ∧ i = .int .i64 k ∧ wr = w3.drewN m) (fun i _ => l.length - (intOf i).toNat)
        case atStart => exact ⟨0, 0, by omega, rfl, rfl⟩
        case round =>
          obtain ⟨k, m, hk, rfl, rfl⟩ := hrel
          by_cases hlt : k < l.length
          · obtain ⟨g, rfl, hgl, hc⟩ := own_cell_int (k := k) Ho4.out rfl hlt
            obtain ⟨g', rfl, hgl', hc'⟩ := own_cell_int (k := k) Ho3.out rfl hlt
            have z0 : (0 : Int) ≤ (k : Int) := by omega
            have z1 : (k : Int) < (l.length : Int) := by omega
            generalize l.getD k (-1) = y at *
            go_wp2
            go_quiet (fail)
            go_wp2
            go_roundw
            case rel => exact ⟨k + 1, _, by omega, by go_num, rfl⟩
            case measure => simp [intOf]; omega
          · go_wp2
            go_ret
            exact ⟨rfl, below_drewN HB3.out _⟩

theorem walkBndArg {H : Type} {enc : TypeId × Value → H} {d d' : DataW H} {p p' : List MemPlace} (a : Option Addr) (n c : Nat) {W : World} (h : DataW.Trod enc Try.prog W 0 (fun _ => true) true 22 (.slice a n c) d p) (pos : Int)
    (a' : Option Addr) (n' c' : Nat) (h' : DataW.Trod enc Try.prog W 0 (fun _ => true) true 22 (.slice a' n' c') d' p') (W' : World) (hW : W' = W) :
    Calls Try.prog 3 #[.slice a n c, .int .i64 pos, .slice a' n' c'] W' fun e w' => e = .returned (.bool true) ∧ Below W'.heap.size W' w' := by
  subst hW
  obtain ⟨P, ⟨A1, c1, e1, _, hr1⟩, _, _⟩ := lines_arg h ⟨_, _, _, rfl⟩
  obtain ⟨N, ⟨A2, c2, e2, _, hr2⟩, _, _⟩ := lines_arg h' ⟨_, _, _, rfl⟩
  injection e1 with e11 e12 e13
  injection e2 with e21 e22 e23
  subst e11 e12 e13 e21 e22 e23
  exact walkBnd a a' c c' P N pos W' hr1 hr2
end Go.Proofs.Ytppmdncmjcknkaa
