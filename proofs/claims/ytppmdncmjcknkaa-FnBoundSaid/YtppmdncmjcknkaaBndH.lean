/-
  PartArguments and Arguments. Conditions: none.
-/
import Derived.Test.YtppmdncmjcknkaaBndG
namespace Go.Proofs.Ytppmdncmjcknkaa
open Go.RowKit
set_option linter.unusedVariables false
set_option linter.unusedSimpArgs false

theorem own_base {w : World} {base base' n size : Nat} {t : TypeId} {v : Value} {xs : List Value} (h : w.ownsRow base t size v n xs) (hb : base' ≤ base) : w.ownsRow base' t size v n xs := by
  refine ⟨h.1, ?_⟩
  rcases h.2 with h | ⟨g, cap, cur, h0, h1, h2⟩
  · exact .inl h
  · exact .inr ⟨g, cap, cur, h0, by omega, h2⟩
theorem PosOk.below {w w' : World} {base n : Nat} {v : Value} (h : PosOk w base n v) (hb : Below w.heap.size w w') : PosOk w' base n v := by
  obtain ⟨ts, h1, h2⟩ := h
  exact ⟨ts, ownsRow_below h1 hb, fun j u hu => (h2 j u hu).keep (NumKeep.below hb)⟩
theorem NamOk.below {w w' : World} {base n k : Nat} {v : Value} {N : List ByteArray} (h : NamOk w base n k v N) (hb : Below w.heap.size w w') : NamOk w' base n k v N := by
  obtain ⟨xs, h1, h2⟩ := h
  refine ⟨xs, ownsRow_below h1 hb, fun j s hj hs => ?_⟩
  obtain ⟨u, a, b, c⟩ := h2 j s hj hs
  exact ⟨u, a, b, c.keep (NumKeep.below hb)⟩
theorem ParOk.base {w : World} {base base' k : Nat} {v : Value} {P : List ByteArray} {b : Bool} (h : ParOk w base k v P b) (hb : base' ≤ base) : ParOk w base' k v P b := by
  obtain ⟨xs, h1, h2⟩ := h
  exact ⟨xs, own_base h1 hb, h2⟩

set_option maxRecDepth 100000 in
set_option maxHeartbeats 1600000 in
theorem part_args (n : Nat) (hn : n ≤ 200) (A Ao An : Option Addr) (c co cn : Nat) (P N : List ByteArray) (hP : P.length ≤ 100) (hN : N.length ≤ 100) (hA : Apart P) (w : World)
    (h : Reads w w.heap.size 1 A P.length (strs P)) (ho : Reads w w.heap.size 1 Ao P.length (List.replicate P.length (.bool true))) (hN' : Reads w w.heap.size 1 An N.length (strs N)) :
    Calls Try.prog 19 #[.slice A P.length c, .slice Ao P.length co, .int .i64 n, .slice An N.length cn] w (Checks w P n N) := by
  have HR := Lib.hid h
  have HO := Lib.hid ho
  have HN := Lib.hid hN'
  have HA := Lib.hid hA
  clear h ho hN' hA
  go_enter Try.func19, Try.ntmps19
  go_wp2_with fail
  go_at_call 21
  refine (arguments_any n hn An cn N hN _ ((HN.out.below ((Below.refl _ _).alloc (Nat.le_refl _) _)).more (by simp))).mono ?_
  rintro e' w1 ⟨vp, vn, rfl, hpos, hnam, hb1⟩
  have HB1 := Lib.hid (((Below.refl w.heap.size w).alloc (Nat.le_refl _) _).trans (hb1.mono (by simp)))
  have hs1 := hb1.size
  simp at hs1
  have HI : Hid (Interp w1 w.heap.size) := Interp.below ⟨by simp, by simp [go_sem], by simp [go_sem]⟩ hb1
  have HP := Lib.hid hpos
  have HNm := Lib.hid hnam
  clear hpos hnam hb1
  go_wp2_with fail
  go_at_call 22
  refine (params_all A Ao c co P hP w1 ((HR.out.below HB1.out).more (by omega)) ((HO.out.below HB1.out).more (by omega))).mono ?_
  rintro e' w2 ⟨pv, rfl, hpar, hb2⟩
  have HB2 := Lib.hid (HB1.out.trans (hb2.mono (by omega)))
  have hs2 := hb2.size
  have HI2 := Lib.hid (HI.out.below hb2)
  have HP2 := Lib.hid (HP.out.below hb2)
  have HN2 := Lib.hid (HNm.out.below hb2)
  have HPar := Lib.hid (hpar.base (base' := w.heap.size + 1) (by omega))
  clear hpar hb2
  go_wp2_with fail
  go_at_call 28
  refine (check_args w.heap.size n (w.heap.size + 1) vp vn pv P N w2 HI2.out (by simpa using HP2.out) (by simpa using HN2.out) HPar.out hP hN hn HA.out).mono ?_
  rintro e' w3 ⟨hres, hb3⟩
  have HB3 := Lib.hid (HB2.out.trans (hb3.mono (by omega)))
  clear hb3
  rcases hres with ⟨hg, rfl⟩ | ⟨hg, t, u, rfl⟩
  · have HG := Lib.hid hg
    clear hg
    go_wp2
    go_ret
    exact ⟨.inl ⟨HG.out, rfl⟩, HB3.out⟩
  · have HG := Lib.hid hg
    clear hg
    go_wp2
    go_ret
    exact ⟨.inr ⟨HG.out, _, _, rfl⟩, HB3.out⟩

set_option maxRecDepth 100000 in
theorem impl_args (n : Nat) (hn : n ≤ 200) (A Ao An : Option Addr) (c co cn : Nat) (P N : List ByteArray) (hP : P.length ≤ 100) (hN : N.length ≤ 100) (hA : Apart P) (w : World)
    (h : Reads w w.heap.size 1 A P.length (strs P)) (ho : Reads w w.heap.size 1 Ao P.length (List.replicate P.length (.bool true))) (hN' : Reads w w.heap.size 1 An N.length (strs N)) (r : Bool) (hr : (given P n N).isSome = r) :
    Calls Try.prog 14 #[.slice A P.length c, .slice Ao P.length co, .int .i64 n, .slice An N.length cn] w fun e w' => e = .returned (.bool r) ∧ Below w.heap.size w w' := by
  have HR := Lib.hid h
  have HO := Lib.hid ho
  have HN := Lib.hid hN'
  have HA := Lib.hid hA
  have Hr := Lib.hid hr
  have d0 : (0 : Int) ≤ (n : Int) := by omega
  have d1 : decide ((n : Int) ≤ 1000) = true := decide_eq_true (by omega)
  have d2 : decide ((0 : Int) ≤ (n : Int)) = true := decide_eq_true (by omega)
  clear h ho hN' hA hr
  go_enter Try.func14, Try.ntmps14
  go_wp2_with fail
  go_at_call 19
  refine (part_args n hn A Ao An c co cn P N hP hN HA.out w HR.out HO.out HN.out).mono ?_
  rintro e' w1 ⟨hres, hb⟩
  have HB := Lib.hid hb
  clear hb
  rcases hres with ⟨hg, rfl⟩ | ⟨hg, t, u, rfl⟩
  · have HG := Lib.hid hg
    clear hg
    go_wp2
    go_ret
    exact ⟨ret_bool (by rw [← Hr.out, HG.out]), HB.out⟩
  · have HG := Lib.hid hg
    clear hg
    go_wp2
    go_ret
    exact ⟨ret_bool (by rw [← Hr.out, HG.out]; rfl), HB.out⟩
end Go.Proofs.Ytppmdncmjcknkaa
