/-
  A string's value, made and told. Conditions: the strings are read strictly.
-/
import Derived.Test.YtohhcmcelofgeaaDoorUnits
import Derived.Test.YtohhcmcelofgeaaDoorTrimP
import Derived.WalkKit
import Derived.WalkSpells
import Derived.Lib.Hide
import Derived.Outline
import Derived.Laws.IdiomStrings
import Derived.Laws.Cover4
import Derived.Deep.QuietTactic
import Derived.BigQuiet
namespace Go.Proofs.YtohhcmcelofgeaaDoor
open Go.RowKit
set_option linter.unusedVariables false
set_option linter.unusedSimpArgs false

/-! ### a text made of code points -/
theorem bl_append (s t : ByteArray) : bl (s ++ t) = bl s ++ bl t := by simp [bl]
theorem bl_encode {x : Nat} (hx : Sc x) : bl (Utf8.encode (x : Int)) = enc x := by
  have hv : Utf8.valid (x : Int) = true := by
    unfold Sc at hx
    unfold Utf8.valid
    simp
    omega
  have hx2 : x < 1114112 := by unfold Sc at hx; omega
  unfold Utf8.encode
  simp only [hv, if_true, Int.toNat_natCast]
  by_cases h1 : x < 128
  · rw [if_pos h1, enc_1 h1]; simp [bl]; omega
  rw [if_neg h1]
  by_cases h2 : x < 2048
  · rw [if_pos h2, enc_2 (by omega) h2]; simp [bl]; omega
  rw [if_neg h2]
  by_cases h3 : x < 65536
  · rw [if_pos h3, enc_3 (by omega) h3]; simp [bl]; omega
  · rw [if_neg h3, enc_4 (by omega)]; simp [bl]; omega
theorem bl_fold : ∀ (l : List Nat) (s : ByteArray), (∀ x ∈ l, Sc x) → bl ((l.map fun n : Nat => (n : Int)).foldl (fun r n => r ++ Utf8.encode n) s) = bl s ++ l.flatMap enc
  | [], s, _ => by simp
  | x :: l, s, h => by
    rw [List.map_cons, List.foldl_cons, bl_fold l _ (fun y hy => h y (by simp [hy])), bl_append, bl_encode (h x (by simp))]
    simp
theorem back {s : ByteArray} {l : List Nat} (h : Is s l) : runesBytes (l.map fun n : Nat => (n : Int)) = s := by
  apply bl_inj
  unfold runesBytes
  rw [bl_fold l _ h.2, h.1]
  rfl

/-! ### values -/
def rune (l : List Nat) (j : Nat) : Int := (l.getD j 0 : Nat)
/-- A flat string of these numbers lies there. -/
def Flat (w : World) (v : Value) (l : List Nat) : Prop := ∃ p g cap : Nat, v = .iface 85 (.pointer (some ⟨p, 0, none⟩)) ∧ p < w.heap.size ∧ g < w.heap.size ∧
  w.cell? ⟨p, 0, none⟩ = some (.slice (some ⟨g, 0, none⟩) l.length cap) ∧ l.length ≤ cap ∧ ∀ j, j < l.length → w.cell? ⟨g, j, none⟩ = some (.int .i32 (rune l j))
theorem Flat.below {w w' : World} {v : Value} {l : List Nat} (h : Flat w v l) (hb : Below w.heap.size w w') : Flat w' v l := by
  obtain ⟨p, g, cap, e, hp, hg, hc, hl, hr⟩ := h
  have hs := hb.size
  exact ⟨p, g, cap, e, by omega, by omega, (hb.cell (p := ⟨p, 0, none⟩) hp).trans hc, hl, fun j hj => (hb.cell (p := ⟨g, j, none⟩) hg).trans (hr j hj)⟩
theorem conv_runes {s : ByteArray} {l : List Nat} (h : Read s s.size l) (hs : s.size ≤ 10000) (w : World) : ∃ (A : Array Value) (C : Nat), l.length ≤ C ∧
    (convert 9 87 (.string s)).run Tryd.prog w = .ok (.slice (some ⟨w.heap.size, 0, none⟩) l.length C) (w.drew.alloc (.cells A 21)) ∧
    ∀ j, j < l.length → A[j]? = some (.int .i32 (rune l j)) := by
  have hr := run_runes_of_string (P := Tryd.prog) w 9 87 21 s Tryd.underlying9 Tryd.underlying87 Tryd.underlying21 (by
    have := size_runesFrom s s.size 0 #[]
    simp only [List.size_toArray, List.length_nil, Nat.zero_add] at this
    omega)
  rw [runes_of h] at hr
  simp only [List.size_toArray, List.length_map] at hr
  refine ⟨_, _, ?_, hr, fun j hj => ?_⟩
  · exact grownCap_ge _ _ _ _
  · rw [Array.getElem?_append_left (by simpa using hj)]
    simp [rune, hj]
set_option maxRecDepth 100000 in
theorem made (s : ByteArray) (l : List Nat) (h : Is s l) (hs : s.size ≤ 10000) (w : World) :
    Calls Tryd.prog 21 #[.string s] w fun e w' => ∃ v, e = .returned v ∧ Flat w' v l ∧ Below w.heap.size w w' := by
  obtain ⟨A, C, hC, hconv, hA⟩ := conv_runes h.read hs w
  have HA := Lib.hid hA
  have HC := Lib.hid hC
  clear hA hC h
  go_enter Tryd.func21, Tryd.ntmps21
  go_wp2
  go_ret
  refine ⟨_, rfl, ⟨w.heap.size + 1, w.heap.size, C, rfl, by simp, by simp; omega, by simp [go_sem], HC.out, fun j hj => ?_⟩, (((Below.refl _ _).alloc (Nat.le_refl _) _).alloc (by simp) _).drew⟩
  have := HA.out j hj
  simp [go_sem, this]
theorem str_any (s : ByteArray) (l : List Nat) (h : Is s l) (hs : s.size ≤ 10000) (w : World) :
    Calls Tryd.prog 17 #[.string s] w fun e w' => ∃ v, e = .returned v ∧ Flat w' v l ∧ Below w.heap.size w w' := by
  have H := Lib.hid h
  clear h
  go_enter Tryd.func17, Tryd.ntmps17
  go_wp2_with fail
  go_at_call 21
  refine (made s l H.out hs _).mono ?_
  rintro e w1 ⟨v, rfl, hf, hb⟩
  have HF := Lib.hid hf
  clear hf
  go_wp2
  go_ret
  exact ⟨_, rfl, HF.out, hb⟩

/-- The name of the method that tells a string. -/
def goName : String := String.ofList (List.map Char.ofNat [103, 105, 118, 101, 110, 46, 101, 120, 97, 109, 112, 108, 101, 47, 112, 117, 98, 45, 114, 111, 110, 100, 101, 108, 47, 112, 117, 98, 47, 106, 115, 111, 110, 110, 101, 116, 46, 103, 101, 116, 71, 111, 83, 116, 114, 105, 110, 103])
theorem go_meth (p : Nat) (w : World) (nm : String) (h : nm = goName) : (method 304 85 (.pointer (some ⟨p, 0, none⟩)) nm).run Tryd.prog w = .ok (56, .pointer (some ⟨p, 0, none⟩)) w := by
  subst h
  kernel_rfl
set_option maxRecDepth 100000 in
theorem go_any (v : Value) (s : ByteArray) (l : List Nat) (h : Is s l) (w : World) (hf : Flat w v l) : ∃ p : Nat, v = .iface 85 (.pointer (some ⟨p, 0, none⟩)) ∧
    Calls Tryd.prog 56 #[.pointer (some ⟨p, 0, none⟩)] w fun e w' => e = .returned (.string s) ∧ w = w' := by
  obtain ⟨p, g, cap, rfl, hp, hg, hc, hl, hr⟩ := hf
  refine ⟨p, rfl, ?_⟩
  have hv := run_convert_runes (P := Tryd.prog) w 87 9 21 ⟨g, 0, none⟩ l.length cap (l.map fun n : Nat => (n : Int)) (by simp) Tryd.underlying87 Tryd.underlying21 Tryd.underlying9 (fun j hj => by
    simp only [List.length_map] at hj
    have := hr j hj
    have e : (⟨g, 0, none⟩ : Addr).add j = ⟨g, j, none⟩ := by unfold Addr.add; split <;> simp_all
    rw [e, this]
    simp [rune, List.getD_eq_getElem?_getD, hj])
  rw [List.take_of_length_le (by simp), back h] at hv
  clear hr h
  go_enter Tryd.func56, Tryd.ntmps56
  go_wp2
  go_ret
  exact ⟨rfl, rfl⟩
set_option maxRecDepth 100000 in
theorem getStr_any (i : Value) (p : Nat) (w : World) :
    Calls Tryd.prog 20 #[i, .iface 85 (.pointer (some ⟨p, 0, none⟩))] w fun e w' => e = .returned (.tuple #[.iface 85 (.pointer (some ⟨p, 0, none⟩)), .nilIface]) ∧ w = w' := by
  have ht : ∀ w, (Instr.typeAssert (.iface 85 (.pointer (some ⟨p, 0, none⟩))) 44 72 true).run Tryd.prog w = .ok (.tuple #[.iface 85 (.pointer (some ⟨p, 0, none⟩)), .bool true]) w := fun _ => by kernel_rfl
  go_enter Tryd.func20, Tryd.ntmps20
  go_wp2
  go_ret2
  exact ⟨rfl, rfl⟩
set_option maxRecDepth 100000 in
theorem strOf_any (v : Value) (s : ByteArray) (l : List Nat) (h : Is s l) (w : World) (hf : Flat w v l) :
    Calls Tryd.prog 15 #[v, .nilIface] w fun e w' => e = .returned (.tuple #[.string s, .nilIface]) ∧ w = w' := by
  obtain ⟨p, rfl, hc⟩ := go_any v s l h w hf
  have HC := Lib.hid hc
  clear hc hf h
  have ht : ∀ w, (Instr.typeAssert (.iface 85 (.pointer (some ⟨p, 0, none⟩))) 44 72 false).run Tryd.prog w = .ok (.iface 85 (.pointer (some ⟨p, 0, none⟩))) w := fun _ => by kernel_rfl
  go_enter Tryd.func15, Tryd.ntmps15
  go_wp2_with fail
  rw [go_meth _ _ _ (by kernel_rfl)]
  go_wp2_with (go_at_call 56; refine HC.out.mono ?_; rintro e w' ⟨rfl, rfl⟩)
  go_ret2
  exact ⟨rfl, rfl⟩
set_option maxRecDepth 100000 in
theorem text_any (s : ByteArray) (w : World) : Calls Tryd.prog 9 #[.string s, .nilIface] w fun e w' => e = .returned (.tuple #[.string s, .bool true]) ∧ w = w' := by
  go_enter Tryd.func9, Tryd.ntmps9
  go_wp2
  go_ret2
  exact ⟨rfl, rfl⟩
set_option maxRecDepth 100000 in
theorem truth_any (b : Bool) (w : World) : Calls Tryd.prog 12 #[.bool b, .nilIface] w fun e w' => e = .returned (.tuple #[.bool b, .bool true]) ∧ w = w' := by
  go_enter Tryd.func12, Tryd.ntmps12
  go_wp2
  go_ret2
  exact ⟨rfl, rfl⟩
end Go.Proofs.YtohhcmcelofgeaaDoor
