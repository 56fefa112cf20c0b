/-
  The params of a function, made. Conditions: none.
-/
import Derived.Test.YtppmdncmjcknkaaBndE
namespace Go.Proofs.Ytppmdncmjcknkaa
open Go.RowKit
set_option linter.unusedVariables false
set_option linter.unusedSimpArgs false

def Dflt : Bool → Value → Prop
  | true, d => ∃ a, d = .iface 101 (.pointer (some a))
  | false, d => d = .nilIface
/-- Params with their names. -/
def ParOk (w : World) (base k : Nat) (v : Value) (P : List ByteArray) (b : Bool) : Prop := ∃ xs, w.ownsRow base 96 2 v k xs ∧
  ∀ (j : Nat) (s : ByteArray), j < k → P[j]? = some s → ∃ d, xs[j * 2]? = some d ∧ xs[j * 2 + 1]? = some (.string s) ∧ Dflt b d
theorem ParOk.below {w w' : World} {base k : Nat} {v : Value} {P : List ByteArray} {b : Bool} (h : ParOk w base k v P b) (hb : Below w.heap.size w w') : ParOk w' base k v P b := by
  obtain ⟨xs, h1, h2⟩ := h
  exact ⟨xs, ownsRow_below h1 hb, h2⟩
theorem par_next {w2 : World} {base k : Nat} {v d : Value} {xs : List Value} {P : List ByteArray} {s : ByteArray} {b : Bool} (hs : P[k]? = some s) (hd : Dflt b d) (hlen : xs.length = k * 2)
    (hx : ∀ (j : Nat) (s : ByteArray), j < k → P[j]? = some s → ∃ d, xs[j * 2]? = some d ∧ xs[j * 2 + 1]? = some (.string s) ∧ Dflt b d)
    (hown2 : w2.ownsRow base 96 2 v (k + 1) (xs ++ [d, .string s])) : ParOk w2 base (k + 1) v P b := by
  refine ⟨_, hown2, fun j s' hj hs' => ?_⟩
  by_cases c : j < k
  · obtain ⟨u, h1, h2, h3⟩ := hx j s' c hs'
    exact ⟨u, by rw [List.getElem?_append_left (by omega)]; exact h1, by rw [List.getElem?_append_left (by omega)]; exact h2, h3⟩
  · obtain rfl : j = k := by omega
    rw [hs] at hs'
    injection hs' with hs'
    subst hs'
    refine ⟨d, ?_, ?_, hd⟩
    · rw [List.getElem?_append_right (by omega), hlen, Nat.sub_self]; rfl
    · rw [List.getElem?_append_right (by omega), hlen, show j * 2 + 1 - j * 2 = 1 by omega]; rfl

def ParsOk (w : World) (n : Nat) (P : List ByteArray) (b : Bool) (e : Ending) (w' : World) : Prop := ∃ v, e = .returned v ∧ ParOk w' w.heap.size n v P b ∧ Below w.heap.size w w'

set_option maxRecDepth 100000 in
set_option maxHeartbeats 1600000 in
theorem params_nil (A : Option Addr) (c : Nat) (P : List ByteArray) (hP : P.length ≤ 100) (w : World) (h : Reads w w.heap.size 1 A P.length (strs P)) :
    Calls Try.prog 22 #[.slice A P.length c, .slice none 0 0] w (ParsOk w P.length P false) := by
  obtain ⟨i96, hi96, hz96, hz96', hz96''⟩ := info_parts info_param
  have HR := Lib.hid h
  clear h
  go_enter Try.func22, Try.ntmps22
  go_wp2
  go_loopw [5, 11] (fun out i wr => ∃ k : Nat, k ≤ P.length ∧ i = .int .i64 k ∧ ParOk wr w.heap.size k out P false ∧ Below w.heap.size w wr) (fun _ i _ => P.length - (intOf i).toNat)
  case atStart => exact ⟨0, by omega, rfl, ⟨[], World.ownsRow_nil _ _ _ _, fun j s h => absurd h (by omega)⟩, Below.refl _ _⟩
  case round =>
    obtain ⟨k, hk, rfl, ⟨xs, ho, hx⟩, hbw⟩ := hrel
    by_cases hlt : k < P.length
    · obtain ⟨ad, s, rfl, hb, hs, hc0⟩ := HR.out.line hlt
      have hc := (hbw.cell (p := ad.add k) (by rw [block_of_add]; exact hb)).trans hc0
      have Hs := Lib.hid hs
      have Ho := Lib.hid ho
      have Hx := Lib.hid hx
      have hog := Lib.hid ho.lt
      have hsz := hbw.size
      have Hbw := Lib.hid hbw
      clear hs hc0 ho hx hbw
      go_wp2_with (at_builtin; refine wpList_append_lies _ rfl (.tmp 32) (.tmp 34) _ rfl w.heap.size 96 i96 _ 2 32 Try.underlying50 hi96 hz96 hz96' hz96'' rfl (by omega) u5 k xs rfl ((Ho.out.alloc _).alloc _) ⟨wr.heap.size + 1, 0, none⟩ 1 1 [.nilIface, .string s] rfl rfl (news_at _ _ _ _ (by simp)) (by simp [Value.oneCell']) (by omega) (by simp only [maxLen]; omega) (by omega) (by simp; omega) (wr.heap.size + 1 + 1) (by simp) ?_; intro g2 cap2 w2 hown2 hg2 hat2 hlt2)
      have hN := Lib.hid (par_next (b := false) Hs.out rfl Ho.out.1 Hx.out hown2)
      have hB := Lib.hid (Hbw.out.trans ((((((Below.refl _ _).alloc (Nat.le_refl _) _).alloc (by simp) _).mono hsz).grown hg2 (by simp; omega) (fun a ha => (hog.out a ha).1))))
      clear hown2 hg2 hat2 hlt2
      go_wp2
      go_roundw
      case rel => exact ⟨k + 1, by omega, by go_num, hN.out, hB.out⟩
      case measure => simp [intOf]; omega
    · obtain rfl : k = P.length := by omega
      have HX := Lib.hid hbw
      have HY : Hid (ParOk wr w.heap.size P.length u5 P false) := ⟨xs, ho, hx⟩
      clear ho hx hbw
      go_wp2
      go_ret
      exact ⟨_, rfl, HY.out, HX.out⟩

set_option maxRecDepth 100000 in
set_option maxHeartbeats 1600000 in
theorem params_all (A Ao : Option Addr) (c co : Nat) (P : List ByteArray) (hP : P.length ≤ 100) (w : World) (h : Reads w w.heap.size 1 A P.length (strs P)) (ho : Reads w w.heap.size 1 Ao P.length (List.replicate P.length (.bool true))) :
    Calls Try.prog 22 #[.slice A P.length c, .slice Ao P.length co] w (ParsOk w P.length P true) := by
  obtain ⟨i96, hi96, hz96, hz96', hz96''⟩ := info_parts info_param
  have HR := Lib.hid h
  have HO := Lib.hid ho
  clear h ho
  go_enter Try.func22, Try.ntmps22
  go_wp2
  go_loopw [5, 11] (fun out i wr => ∃ k : Nat, k ≤ P.length ∧ i = .int .i64 k ∧ ParOk wr w.heap.size k out P true ∧ Below w.heap.size w wr) (fun _ i _ => P.length - (intOf i).toNat)
  case atStart => exact ⟨0, by omega, rfl, ⟨[], World.ownsRow_nil _ _ _ _, fun j s h => absurd h (by omega)⟩, Below.refl _ _⟩
  case round =>
    obtain ⟨k, hk, rfl, ⟨xs, ho, hx⟩, hbw⟩ := hrel
    by_cases hlt : k < P.length
    · obtain ⟨ad, s, rfl, hb, hs, hc0⟩ := HR.out.line hlt
      have hc := (hbw.cell (p := ad.add k) (by rw [block_of_add]; exact hb)).trans hc0
      obtain ⟨ad2, x, rfl, hb2, hx2, hcb0⟩ := HO.out.at_ hlt
      obtain rfl : .bool true = x := by rw [List.getElem?_replicate] at hx2; split at hx2 <;> simp_all
      have hcb := (hbw.cell (p := ad2.add k) (by rw [block_of_add]; exact hb2)).trans hcb0
      have hsz := hbw.size
      have hcb2 := (World.cell?_alloc_lt wr (.cells #[.nilIface, .string s] 96) (ad2.add k) (by rw [block_of_add]; omega)).trans hcb
      have Hs := Lib.hid hs
      have Ho := Lib.hid ho
      have Hx := Lib.hid hx
      have hog := Lib.hid ho.lt
      have Hbw := Lib.hid hbw
      clear hs hc0 ho hx hbw hx2 hcb0 hcb
      go_wp2_with (at_builtin; refine wpList_append_lies _ rfl (.tmp 32) (.tmp 34) _ rfl w.heap.size 96 i96 _ 2 32 Try.underlying50 hi96 hz96 hz96' hz96'' rfl (by omega) u5 k xs rfl (((Ho.out.alloc _).alloc _).alloc _) ⟨wr.heap.size + 1 + 1, 0, none⟩ 1 1 [.iface 101 (.pointer (some ⟨wr.heap.size + 1, 0, none⟩)), .string s] rfl rfl (news_at _ _ _ _ (by simp)) (by simp [Value.oneCell']) (by omega) (by simp only [maxLen]; omega) (by omega) (by simp; omega) (wr.heap.size + 1 + 1 + 1) (by simp) ?_; intro g2 cap2 w2 hown2 hg2 hat2 hlt2)
      have hN := Lib.hid (par_next (b := true) Hs.out ⟨_, rfl⟩ Ho.out.1 Hx.out hown2)
      have hB := Lib.hid (Hbw.out.trans (((((((Below.refl _ _).alloc (Nat.le_refl _) _).alloc (by simp) _).alloc (by simp; omega) _).mono hsz).grown hg2 (by simp; omega) (fun a ha => (hog.out a ha).1))))
      clear hown2 hg2 hat2 hlt2
      go_wp2
      go_roundw
      case rel => exact ⟨k + 1, by omega, by go_num, hN.out, hB.out⟩
      case measure => simp [intOf]; omega
    · obtain rfl : k = P.length := by omega
      have HX := Lib.hid hbw
      have HY : Hid (ParOk wr w.heap.size P.length u5 P true) := ⟨xs, ho, hx⟩
      clear ho hx hbw
      go_wp2
      go_ret
      exact ⟨_, rfl, HY.out, HX.out⟩
end Go.Proofs.Ytppmdncmjcknkaa
