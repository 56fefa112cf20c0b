/-
  A string's value, made and told. Conditions: the strings are read strictly.
-/
import Derived.Test.YtohhcmcelofgeaaUnits
import Derived.Test.YtohhcmcelofgeaaSplP
import Derived.Test.YtohhcmcelofgeaaMake
import Derived.WalkKit
import Derived.WalkSpells
import Derived.Lib.Hide
import Derived.Outline
import Derived.Laws.IdiomStrings
import Derived.Laws.Cover4
import Derived.Deep.QuietTactic
import Derived.BigQuiet
namespace Go.Proofs.Ytohhcmcelofgeaa
open Go.RowKit
set_option linter.unusedVariables false
set_option linter.unusedSimpArgs false

/-! ### a text made of code points -/
theorem bl_append (s t : ByteArray) : bl (s ++ t) = bl s ++ bl t := by simp [bl]
theorem bl_encode {x : Nat} (hx : Sc x) : bl (Utf8.encode (x : Int)) = enc x := by
  have hv : Utf8.valid (x : Int) = true := by
    unfold Sc at hx
    unfold Utf8.valid
    simp
    omega
  have hx2 : x < 1114112 := by unfold Sc at hx; omega
  unfold Utf8.encode
  simp only [hv, if_true, Int.toNat_natCast]
  by_cases h1 : x < 128
  · rw [if_pos h1, enc_1 h1]; simp [bl]; omega
  rw [if_neg h1]
  by_cases h2 : x < 2048
  · rw [if_pos h2, enc_2 (by omega) h2]; simp [bl]; omega
  rw [if_neg h2]
  by_cases h3 : x < 65536
  · rw [if_pos h3, enc_3 (by omega) h3]; simp [bl]; omega
  · rw [if_neg h3, enc_4 (by omega)]; simp [bl]; omega
theorem bl_fold : ∀ (l : List Nat) (s : ByteArray), (∀ x ∈ l, Sc x) → bl ((l.map fun n : Nat => (n : Int)).foldl (fun r n => r ++ Utf8.encode n) s) = bl s ++ l.flatMap enc
  | [], s, _ => by simp
  | x :: l, s, h => by
    rw [List.map_cons, List.foldl_cons, bl_fold l _ (fun y hy => h y (by simp [hy])), bl_append, bl_encode (h x (by simp))]
    simp
theorem back {s : ByteArray} {l : List Nat} (h : Is s l) : runesBytes (l.map fun n : Nat => (n : Int)) = s := by
  apply bl_inj
  unfold runesBytes
  rw [bl_fold l _ h.2, h.1]
  rfl

/-! ### values -/
def rune (l : List Nat) (j : Nat) : Int := (l.getD j 0 : Nat)
/-- A flat string of these numbers lies there. -/
def Flat (w : World) (v : Value) (l : List Nat) : Prop := ∃ (p g cap : Nat) (A : Array Value), v = .iface 86 (.pointer (some ⟨p, 0, none⟩)) ∧
  Blk w p 90 #[.slice (some ⟨g, 0, none⟩) l.length cap] ∧ Blk w g 21 A ∧ l.length ≤ cap ∧ ∀ j, j < l.length → A[j]? = some (.int .i32 (rune l j))
/-- Blocks of strings and of thunks stay. -/
def StrKeep (w w' : World) : Prop := ∀ (g : Nat) (t : TypeId) (cs : Array Value), t = 100 ∨ t = 90 ∨ t = 21 → Blk w g t cs → Blk w' g t cs
theorem StrKeep.below {w w' : World} (h : Below w.heap.size w w') : StrKeep w w' := fun g t cs _ hb => hb.later h
theorem StrKeep.trans {a b c : World} (h : StrKeep a b) (k : StrKeep b c) : StrKeep a c := fun g t cs ht hb => k g t cs ht (h g t cs ht hb)
theorem StrKeep.grown {w w' : World} {base n size : Nat} {e : TypeId} {v : Value} {xs : List Value} (ho : w.ownsRow base e size v n xs) (hg : w.grownBy w' v.ownBlock) (h1 : e ≠ 100) (h2 : e ≠ 90) (h3 : e ≠ 21) : StrKeep w w' := fun g t cs ht hb =>
  hb.grown hg (fun h => own_blk_ne ho hb (by rcases ht with rfl | rfl | rfl; exact h1; exact h2; exact h3) h.symm)
theorem StrKeep.set_ {w : World} {r : Nat} {e : TypeId} {cs : Array Value} (hr : Blk w r e cs) (i : Nat) (u : Value) (h1 : e ≠ 100) (h2 : e ≠ 90) (h3 : e ≠ 21) : StrKeep w (w.setCell ⟨r, i, none⟩ u) := fun g t cs' ht hb =>
  hb.far (fun h => by
    have h' : g = r := h
    subst h'
    have := hr.symm.trans hb
    injection this with this
    injection this with _ h4
    rcases ht with rfl | rfl | rfl
    · exact h1 h4
    · exact h2 h4
    · exact h3 h4) u
theorem Flat.keep {w w' : World} {v : Value} {l : List Nat} (h : Flat w v l) (hk : StrKeep w w') : Flat w' v l := by
  obtain ⟨p, g, cap, A, e, h1, h2, h3, h4⟩ := h
  exact ⟨p, g, cap, A, e, hk _ _ _ (.inr (.inl rfl)) h1, hk _ _ _ (.inr (.inr rfl)) h2, h3, h4⟩
theorem Flat.below {w w' : World} {v : Value} {l : List Nat} (h : Flat w v l) (hb : Below w.heap.size w w') : Flat w' v l := h.keep (StrKeep.below hb)
theorem conv_runes {s : ByteArray} {l : List Nat} (h : Read s s.size l) (hs : s.size ≤ 10000) (w : World) : ∃ (A : Array Value) (C : Nat), l.length ≤ C ∧
    (convert 9 82 (.string s)).run Try.prog w = .ok (.slice (some ⟨w.heap.size, 0, none⟩) l.length C) (w.drew.alloc (.cells A 21)) ∧
    ∀ j, j < l.length → A[j]? = some (.int .i32 (rune l j)) := by
  have hr := run_runes_of_string (P := Try.prog) w 9 82 21 s Try.underlying9 Try.underlying82 Try.underlying21 (by
    have := size_runesFrom s s.size 0 #[]
    simp only [List.size_toArray, List.length_nil, Nat.zero_add] at this
    omega)
  rw [runes_of h] at hr
  simp only [List.size_toArray, List.length_map] at hr
  refine ⟨_, _, ?_, hr, fun j hj => ?_⟩
  · exact grownCap_ge _ _ _ _
  · rw [Array.getElem?_append_left (by simpa using hj)]
    simp [rune, hj]
set_option maxRecDepth 100000 in
theorem made (s : ByteArray) (l : List Nat) (h : Is s l) (hs : s.size ≤ 10000) (w : World) :
    Calls Try.prog 21 #[.string s] w fun e w' => ∃ v, e = .returned v ∧ Flat w' v l ∧ Below w.heap.size w w' := by
  obtain ⟨A, C, hC, hconv, hA⟩ := conv_runes h.read hs w
  have HA := Lib.hid hA
  have HC := Lib.hid hC
  clear hA hC h
  go_enter Try.func21, Try.ntmps21
  go_wp2
  go_ret
  refine ⟨_, rfl, ⟨w.heap.size + 1, w.heap.size, C, A, rfl, ?_, ?_, HC.out, HA.out⟩, (((Below.refl _ _).alloc (Nat.le_refl _) _).alloc (by simp) _).drew⟩
  · have := Blk.new (w.alloc (.cells A 21)) 90 #[.slice (some ⟨w.heap.size, 0, none⟩) l.length C]
    rw [show (w.alloc (.cells A 21)).heap.size = w.heap.size + 1 by simp] at this
    exact this
  · exact (Blk.new w 21 A).alloc _
theorem str_any (s : ByteArray) (l : List Nat) (h : Is s l) (hs : s.size ≤ 10000) (w : World) :
    Calls Try.prog 25 #[.string s] w fun e w' => ∃ v, e = .returned v ∧ Flat w' v l ∧ Below w.heap.size w w' := by
  have H := Lib.hid h
  clear h
  go_enter Try.func25, Try.ntmps25
  go_wp2_with fail
  go_at_call 21
  refine (made s l H.out hs _).mono ?_
  rintro e w1 ⟨v, rfl, hf, hb⟩
  have HF := Lib.hid hf
  clear hf
  go_wp2
  go_ret
  exact ⟨_, rfl, HF.out, hb⟩

/-- The name of the method that tells a string. -/
def goName : String := String.ofList (List.map Char.ofNat [103, 105, 118, 101, 110, 46, 101, 120, 97, 109, 112, 108, 101, 47, 112, 117, 98, 45, 114, 111, 110, 100, 101, 108, 47, 112, 117, 98, 47, 106, 115, 111, 110, 110, 101, 116, 46, 103, 101, 116, 71, 111, 83, 116, 114, 105, 110, 103])
theorem go_meth (p : Nat) (w : World) (nm : String) (h : nm = goName) : (method 314 86 (.pointer (some ⟨p, 0, none⟩)) nm).run Try.prog w = .ok (64, .pointer (some ⟨p, 0, none⟩)) w := by
  subst h
  kernel_rfl
set_option maxRecDepth 100000 in
theorem go_any (v : Value) (s : ByteArray) (l : List Nat) (h : Is s l) (w : World) (hf : Flat w v l) : ∃ p : Nat, v = .iface 86 (.pointer (some ⟨p, 0, none⟩)) ∧
    Calls Try.prog 64 #[.pointer (some ⟨p, 0, none⟩)] w fun e w' => e = .returned (.string s) ∧ w = w' := by
  obtain ⟨p, g, cap, A, rfl, hbp, hbg, hl, hra⟩ := hf
  have hp := hbp.lt
  have hg := hbg.lt
  have hc : w.cell? ⟨p, 0, none⟩ = some (.slice (some ⟨g, 0, none⟩) l.length cap) := hbp.cell 0
  have hr : ∀ j, j < l.length → w.cell? ⟨g, j, none⟩ = some (.int .i32 (rune l j)) := fun j hj => (hbg.cell j).trans (hra j hj)
  refine ⟨p, rfl, ?_⟩
  have hv := run_convert_runes (P := Try.prog) w 82 9 21 ⟨g, 0, none⟩ l.length cap (l.map fun n : Nat => (n : Int)) (by simp) Try.underlying82 Try.underlying21 Try.underlying9 (fun j hj => by
    simp only [List.length_map] at hj
    have := hr j hj
    have e : (⟨g, 0, none⟩ : Addr).add j = ⟨g, j, none⟩ := by unfold Addr.add; split <;> simp_all
    rw [e, this]
    simp [rune, List.getD_eq_getElem?_getD, hj])
  rw [List.take_of_length_le (by simp), back h] at hv
  clear hr hra hbp hbg h
  go_enter Try.func64, Try.ntmps64
  go_wp2
  go_ret
  exact ⟨rfl, rfl⟩
set_option maxRecDepth 100000 in
theorem getStr_any (i : Value) (p : Nat) (w : World) :
    Calls Try.prog 30 #[i, .iface 86 (.pointer (some ⟨p, 0, none⟩))] w fun e w' => e = .returned (.tuple #[.iface 86 (.pointer (some ⟨p, 0, none⟩)), .nilIface]) ∧ w = w' := by
  have ht : ∀ w, (Instr.typeAssert (.iface 86 (.pointer (some ⟨p, 0, none⟩))) 53 48 true).run Try.prog w = .ok (.tuple #[.iface 86 (.pointer (some ⟨p, 0, none⟩)), .bool true]) w := fun _ => by kernel_rfl
  go_enter Try.func30, Try.ntmps30
  go_wp2
  go_ret2
  exact ⟨rfl, rfl⟩
end Go.Proofs.Ytohhcmcelofgeaa
