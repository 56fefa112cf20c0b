/-
  make of a slice of one-cell elements. (Turned from the guide's small lemmas.) Conditions: none.
-/
import Derived.Test.YtohhcmcelofgeaaBlk
import Derived.Laws.MakeOwn
import Derived.Laws.OwnMore
namespace Go.Proofs.Ytohhcmcelofgeaa
open Go.RowKit
set_option linter.unusedVariables false

theorem made_cells (z : Value) (n : Nat) : madeCells #[z] n = (List.replicate n z).toArray := by
  rw [← Array.toList_inj]
  exact toList_madeCells_one z n
theorem run_make_one {P : Program} (t e : TypeId) {z : Value} {bytes : Nat} (ht : P.underlying t = some (.slice e)) (hi : (P.info? e).map (fun i => (i.zero, i.size, i.bytes)) = some (some z, 1, bytes)) (hz : z.cells = #[z])
    (kl kc : IntKind) (n : Nat) (hn : n ≤ 1000000) (hb : bytes ≤ 64) (w : World) :
    (Instr.makeSlice t (.int kl (n : Int)) (.int kc (n : Int))).run P w = .ok (.slice (some ⟨w.heap.size, 0, none⟩) n n) (w.alloc (.cells (List.replicate n z).toArray e)) := by
  obtain ⟨i, hi, hz0, hz1, hz2⟩ := info_parts hi
  have hbn : i.bytes * n ≤ 64 * 1000000 := by rw [hz2]; exact Nat.mul_le_mul hb hn
  have hb' : (i.bytes : Int) * (n : Int) ≤ 281474976710656 := by
    have h : ((i.bytes * n : Nat) : Int) ≤ 281474976710656 := by omega
    rwa [Int.natCast_mul] at h
  have hr := run_make (P := P) w t e i z ht hi hz0 kl kc n n (by omega) (by omega) hb' (by omega)
  simp only [Int.toNat_natCast] at hr
  rw [hr, hz1, Nat.mul_one, hz, made_cells]
end Go.Proofs.Ytohhcmcelofgeaa
