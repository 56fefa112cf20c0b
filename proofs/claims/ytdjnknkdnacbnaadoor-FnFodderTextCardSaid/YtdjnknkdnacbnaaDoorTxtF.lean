/-
  impl.written. Conditions: none.
-/
import Derived.Test.YtdjnknkdnacbnaaDoorTxtE
namespace Go.Proofs.YtdjnknkdnacbnaaDoor
open Go.RowKit
set_option linter.unusedVariables false
set_option linter.unusedSimpArgs false

def Yes (w : World) (e : Ending) (w' : World) : Prop := e = .returned (.bool true) ∧ Below w.heap.size w w'
set_option maxRecDepth 100000 in
set_option maxHeartbeats 800000 in
theorem written_any (A : Option Addr) (c : Nat) (E : List El) (w : World) (h : Els cellsI w A E) (hE : OkF E) : Calls Tryd.prog 12 #[.slice A E.length c] w (Yes w) := by
  have hE1 := hE.1
  have HE := Lib.hid hE.2
  clear hE
  have HR := Lib.hid h
  clear h
  go_enter Tryd.func12, Tryd.ntmps12
  go_wp2
  go_loopw [7] (fun i wr => ∃ k : Nat, k ≤ E.length ∧ i = .int .i64 k ∧ Below w.heap.size w wr) (fun i _ => E.length - (intOf i).toNat)
  case atStart => exact ⟨0, by omega, rfl, Below.refl _ _⟩
  case round =>
    obtain ⟨k, hk, rfl, hbw⟩ := hrel
    by_cases hlt : k < E.length
    · obtain ⟨e, he⟩ : ∃ e, E[k]? = some e := ⟨_, List.getElem?_eq_getElem hlt⟩
      obtain ⟨ad, u, rfl, hb, hu, hc⟩ := HR.out.below hbw k e he
      obtain ⟨h0, h1, h2, h3⟩ := four_of hc
      have hok := HE.out k e he
      obtain ⟨K, B, I, ss⟩ := e
      have hK := ok_k hok
      simp only at h0 h1 h2 h3 hu
      obtain ⟨A', c', rfl, hlc, hr⟩ := hu
      have hsz := hbw.size
      have z0 : (0 : Int) ≤ (k : Int) := by omega
      have z1 : (k : Int) < (E.length : Int) := by omega
      have hB : Hid (Below w.heap.size w (wr.alloc (.cells #[.int .i64 K, .int .i64 B, .int .i64 I, .slice A' ss.length c'] 30))) := hbw.alloc hsz _
      have Hbw := Lib.hid hbw
      by_cases hK1 : K = 1
      · subst hK1
        have hl := (ok_1 hok).1
        have hl2 : ¬ (ss.length : Int) = 0 := by omega
        have Hok := Lib.hid hok
        clear he hc hr hok hbw hK
        go_wp2
        go_roundw
        case rel => exact ⟨k + 1, by omega, by go_num, by first | exact hB.out | exact (Hbw.out.alloc hsz _)⟩
        case measure => simp [intOf]; omega
      · clear he hc hr hok hbw hK
        go_wp2
        go_roundw
        case rel => exact ⟨k + 1, by omega, by go_num, by first | exact hB.out | exact (Hbw.out.alloc hsz _)⟩
        case measure => simp [intOf]; omega
    · obtain rfl : E.length = k := by omega
      have HB := Lib.hid hbw
      clear hbw
      go_wp2
      go_ret
      exact ⟨rfl, HB.out⟩
end Go.Proofs.YtdjnknkdnacbnaaDoor
