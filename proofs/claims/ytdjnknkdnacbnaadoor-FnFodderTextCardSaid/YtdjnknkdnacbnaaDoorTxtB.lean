/-
  The buffer of the unparser: write, string. Conditions: none.
-/
import Derived.Test.YtdjnknkdnacbnaaDoorTxtA
import Derived.Test.YtdjnknkdnacbnaaDoorLay
import Derived.Lib.BufferAt
import Derived.Lib.ByteType
import Derived.BigCall
namespace Go.Proofs.YtdjnknkdnacbnaaDoor
open Go.RowKit
set_option linter.unusedVariables false
set_option linter.unusedSimpArgs false

/-- The unparser's block holds these bytes. -/
def Buf (w : World) (B b : Nat) (l : List UInt8) : Prop := ∃ R, LibA.IsBuffer 56 R 5 B b 0 (Lib.byteCells l) w
/-- What a write leaves. -/
def Wrote (w : World) (B b : Nat) (l : List UInt8) (e : Ending) (w' : World) : Prop := e = .returned (.tuple #[]) ∧ Buf w' B b l ∧ Below B w w' ∧ Lib.OthersKept 5 (some b) w w'
theorem Buf.lt {w : World} {B b : Nat} {l : List UInt8} (h : Buf w B b l) : B ≤ b ∧ b < w.heap.size := by
  obtain ⟨R, h⟩ := h
  exact ⟨h.1, h.lt⟩
theorem Buf.alloc {w : World} {B b : Nat} {l : List UInt8} (h : Buf w B b l) (o : Obj) : Buf (w.alloc o) B b l := by
  obtain ⟨R, h⟩ := h
  exact ⟨R, h.alloc o⟩

set_option maxRecDepth 100000 in
theorem write_any (B b : Nat) (l : List UInt8) (s : ByteArray) (w : World) (h : Buf w B b l) (hBw : B ≤ w.heap.size) (hlim : l.length + s.size ≤ 100000000) :
    Calls Tryd.prog 21 #[.pointer (some ⟨b, 0, none⟩), .string s] w (Wrote w B b (l ++ s.data.toList)) := by
  obtain ⟨R, h⟩ := h
  have hw := Any.Buffer_WriteString_at lays178 56 R B b 0 (Lib.byteCells l) s w h hBw (Lib.byteCells_one l) (by rw [Lib.byteCells_length]; omega)
  have HW := Lib.hid hw
  have hbl := h.lt
  clear hw h
  go_enter Tryd.func21, Tryd.ntmps21
  go_wp2_with (go_at_call 23; refine HW.out.mono ?_; rintro e' w1 ⟨rfl, i1, b1, k1⟩; have HI := Lib.hid i1; have HB := Lib.hid b1; have HK := Lib.hid k1; clear i1 b1 k1)
  first | go_end0 | go_ret | go_ret2
  refine ⟨rfl, ⟨R, ?_⟩, HB.out, HK.out⟩
  rw [Lib.byteCells_append]
  exact HI.out
set_option maxRecDepth 100000 in
theorem string_any (B b : Nat) (l : List UInt8) (w : World) (h : Buf w B b l) :
    Calls Tryd.prog 20 #[.pointer (some ⟨b, 0, none⟩)] w fun e w' => e = .returned (.string ⟨l.toArray⟩) ∧ ∃ n, w' = w.drewN n := by
  obtain ⟨R, h⟩ := h
  have hw := Any.Buffer_String_at lays182 56 R B b 0 l w h
  have HW := Lib.hid hw
  have hbl := h.lt
  clear hw h
  go_enter Tryd.func20, Tryd.ntmps20
  go_wp2_with (go_at_call 22; refine HW.out.mono ?_; rintro e' w1 ⟨rfl, n, rfl⟩)
  go_ret
  exact ⟨rfl, n, rfl⟩
end Go.Proofs.YtdjnknkdnacbnaaDoor
