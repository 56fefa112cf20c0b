/-
  impl.shaped says yes. Conditions: none.
-/
import Derived.Test.YtionkdlcagikaaaPrcB
namespace Go.Proofs.Ytionkdlcagikaaa
open Go.RowKit
set_option linter.unusedVariables false
set_option linter.unusedSimpArgs false

/-- Every node's part lies within that of each node around it. -/
def Fit (T : List Nd) : Prop := T.length ≤ 100 ∧ (∃ r : Nd, T[0]? = some r ∧ r.size = (T.length : Int)) ∧ ∀ (a : Nat) (n : Nd), T[a]? = some n → ∃ s : Nat, n.size = (s : Int) ∧ 1 ≤ s ∧ a + s ≤ T.length ∧
  ∀ (k : Nat) (m : Nd), a < k → k < a + s → T[k]? = some m → ∃ z : Nat, m.size = (z : Int) ∧ 1 ≤ z ∧ k + z ≤ a + s
def TrueTo (w : World) (e : Ending) (w' : World) : Prop := e = .returned (.bool true) ∧ Below w.heap.size w w'
theorem below_drewN' {B : Nat} {a w : World} (h : Below B a w) (n : Nat) : Below B a (w.drewN n) := ⟨h.os, h.tape, h.output, h.size, h.block⟩
set_option maxRecDepth 100000 in
set_option maxHeartbeats 1000000 in
theorem shaped_any (A : Option Addr) (c : Nat) (T : List Nd) (w : World) (h : Reads w w.heap.size 5 A T.length (flatN T)) (hF : Fit T) :
    Calls Try.prog 11 #[.slice A T.length c] w (TrueTo w) := by
  obtain ⟨hl, ⟨r, hr, hrs⟩, hfit⟩ := hF
  have HR := Lib.hid h
  have HF := Lib.hid hfit
  have hpos := (List.getElem?_eq_some_iff.1 hr).1
  obtain ⟨ad, rfl, hb, r0, r1, r2, r3, r4⟩ := h.node hr
  rw [hrs] at r4
  replace r4 : w.cell? ⟨ad.block, ad.off + 4, none⟩ = some (.int .i64 T.length) := r4
  have hz : ((T.length : Int) == 0) = false := beq_eq_false_iff_ne.2 (by omega)
  clear h hfit r0 r1 r2 r3 hrs hr
  go_enter Try.func11, Try.ntmps11
  go_wp2_with fail
  clear r4 hz
  go_loopw [21] (fun i wr => ∃ k : Nat, k ≤ T.length ∧ i = .int .i64 k ∧ Below w.heap.size w wr) (fun i _ => T.length - (intOf i).toNat)
  case atStart => exact ⟨0, by omega, rfl, Below.refl _ _⟩
  case round =>
    obtain ⟨a, ha, rfl, hbw⟩ := hrel
    have HB := Lib.hid hbw
    have hsw := hbw.size
    clear hbw
    by_cases hlt : a < T.length
    · obtain ⟨n, hn⟩ : ∃ n, T[a]? = some n := ⟨_, List.getElem?_eq_getElem hlt⟩
      obtain ⟨s, hns, hs1, hs2, hin⟩ := HF.out a n hn
      obtain ⟨ad', hA, -, g0, g1, g2, g3, g4⟩ := HR.out.node hn
      injection hA with hA
      subst hA
      have e0 := cell_below g0 HB.out
      have e1 := cell_below g1 HB.out
      have e2 := cell_below g2 HB.out
      have e3 := cell_below g3 HB.out
      have e4 := cell_below g4 HB.out
      rw [hns] at e4
      have HI := Lib.hid hin
      clear g0 g1 g2 g3 g4 hns hin hn
      go_wp2_with fail
      go_quiet (fail)
      go_wp2_with fail
      go_loopw [5] (fun i wr => ∃ k : Nat, a < k ∧ k ≤ a + s ∧ i = .int .i64 k ∧ Below w.heap.size w wr) (fun i _ => a + s - (intOf i).toNat)
      case atStart => exact ⟨a + 1, by omega, by omega, by go_num, below_drewN' (HB.out.alloc hsw _) _⟩
      case round =>
        obtain ⟨k, hka, hks, rfl, hbw⟩ := hrel
        have HB2 := Lib.hid hbw
        clear hbw e0 e1 e2 e3 e4
        by_cases hlk : k < a + s
        · have hkT : k < T.length := by omega
          obtain ⟨m, hm⟩ : ∃ m, T[k]? = some m := ⟨_, List.getElem?_eq_getElem hkT⟩
          obtain ⟨z, hmz, hz1, hz2⟩ := HI.out k m hka hlk hm
          obtain ⟨ad', hA, -, g0, g1, g2, g3, g4⟩ := HR.out.node hm
          injection hA with hA
          subst hA
          have e4 := cell_below g4 HB2.out
          rw [hmz] at e4
          clear g0 g1 g2 g3 g4 hmz hm
          go_wp2
          go_roundw
          case rel => exact ⟨k + z, by omega, by omega, by go_num, HB2.out⟩
          case measure => simp [intOf]; omega
        · obtain rfl : k = a + s := by omega
          go_wp2
          go_roundw
          case rel => exact ⟨a + 1, by omega, by go_num, HB2.out⟩
          case measure => simp [intOf]; omega
    · obtain rfl : a = T.length := by omega
      go_wp2
      go_ret
      exact ⟨rfl, HB.out⟩
end Go.Proofs.Ytionkdlcagikaaa
