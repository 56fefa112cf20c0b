/-
  Texts of the call's own, sorted by the library. Conditions: none.
-/
import Derived.Test.YthmijakellfbiaaDoorBlk
import Derived.Test.YthmijakellfbiaaDoorRng
import Derived.Test.YthmijakellfbiaaDoorLaySort
import Derived.Sort.OwnSorted
import Derived.Sort.KeysCollected
namespace Go.Proofs.YthmijakellfbiaaDoor
open Go.RowKit Go.Sort
set_option linter.unusedVariables false

def raw (s : ByteArray) : List UInt8 := s.data.toList
def cooked (l : List UInt8) : ByteArray := ⟨l.toArray⟩
theorem cooked_raw (s : ByteArray) : cooked (raw s) = s := by
  obtain ⟨⟨l⟩⟩ := s
  rfl
theorem raw_inj {a b : ByteArray} (h : raw a = raw b) : a = b := by rw [← cooked_raw a, ← cooked_raw b, h]
theorem raw_cooked (l : List UInt8) : raw (cooked l) = l := by simp [raw, cooked]
/-- These texts in their order. -/
def srt (D : List ByteArray) : List ByteArray := ((D.map raw).mergeSort leB).map cooked
theorem srt_len (D : List ByteArray) : (srt D).length = D.length := by simp [srt]
theorem srt_raw (D : List ByteArray) : (srt D).map raw = (D.map raw).mergeSort leB := by
  unfold srt
  rw [List.map_map]
  have : (raw ∘ cooked) = id := funext raw_cooked
  rw [this, List.map_id]
theorem srt_mem {D : List ByteArray} {s : ByteArray} : s ∈ srt D ↔ s ∈ D := by
  unfold srt
  constructor
  · intro h
    obtain ⟨l, hl, e⟩ := List.mem_map.1 h
    rw [List.mem_mergeSort] at hl
    obtain ⟨t, ht, e2⟩ := List.mem_map.1 hl
    rw [← e, ← e2, cooked_raw]
    exact ht
  · intro h
    exact List.mem_map.2 ⟨raw s, by rw [List.mem_mergeSort]; exact List.mem_map.2 ⟨s, h, rfl⟩, cooked_raw s⟩
theorem srt_perm {D E : List ByteArray} (h : D.Perm E) : srt D = srt E := by
  unfold srt
  rw [mergeSort_of_perm (h.map raw)]
theorem srt_nodup {D : List ByteArray} (h : D.Nodup) : (srt D).Nodup := by
  have h1 : (D.map raw).Nodup := by
    unfold List.Nodup
    rw [List.pairwise_map]
    exact h.imp fun hne e => hne (raw_inj e)
  have h2 : ((D.map raw).mergeSort leB).Nodup := ((List.mergeSort_perm _ leB).nodup_iff).2 h1
  rw [← srt_raw] at h2
  unfold List.Nodup at h2
  rw [List.pairwise_map] at h2
  exact h2.imp fun hne e => hne (by rw [e])
/-- Lists without doubles that hold the same sort to one. -/
theorem srt_same {D E : List ByteArray} (hD : D.Nodup) (hE : E.Nodup) (h : ∀ s, s ∈ D ↔ s ∈ E) : srt D = srt E := srt_perm ((List.perm_ext_iff_of_nodup hD hE).2 h)
theorem strs_enc (D : List ByteArray) : strs D = (D.map raw).map encStr := by
  unfold strs
  rw [List.map_map]
  refine List.map_congr_left fun s _ => ?_
  obtain ⟨⟨l⟩⟩ := s
  simp [encStr, raw]
def SortTo (w : World) (base : Nat) (v : Value) (D : List ByteArray) (e : Ending) (w' : World) : Prop :=
  e = .returned (.tuple #[]) ∧ w'.ownsRow base 9 1 v D.length (strs (srt D)) ∧ w.grownBy w' v.ownBlock
theorem sort_own {w : World} {base : Nat} {v : Value} {D : List ByteArray} (ho : w.ownsRow base 9 1 v D.length (strs D)) (hl : D.length ≤ 4611686018427387903) :
    Calls Tryd.prog 19 #[v] w (SortTo w base v D) := by
  rcases ho.2 with ⟨rfl, h0⟩ | ⟨g, cap, cur, rfl, hbase, hb, h1, h2, h3, h4⟩
  · have : D = [] := List.eq_nil_of_length_eq_zero h0
    subst this
    refine (Any.sort_Strings_none lays192 none 0 w).mono fun e w' ⟨he, hw⟩ => ?_
    subst hw
    exact ⟨he, by simpa [srt, strs] using World.ownsRow_nil _ base 9 1, World.grownBy.refl _ _⟩
  · have hlen : (D.map raw).length = D.length := by simp
    have hcells : cur.toList.take (D.map raw).length = (D.map raw).map encStr := by rw [hlen, ← strs_enc]; simpa using h4
    have hH := holds_of_block hb hcells
    have hc := Any.sort_Strings lays192 g 0 cap (D.map raw) w hH ((Array.getElem?_eq_some_iff.1 hb).1) (by rw [hlen]; omega)
    rw [hlen] at hc
    refine hc.mono fun e w' ⟨he, n, os, hw⟩ => ?_
    subst hw
    refine ⟨he, ?_, grownBy_sorted _⟩
    have := ownsRow_sorted (n := n) (os := os) (ss := D.map raw) (ts := (D.map raw).mergeSort leB) (by simp) hbase hb (by rw [hlen]; exact h1) h2 h3
    rw [hlen] at this
    rw [strs_enc, srt_raw]
    exact this
theorem RMap.ne_own {w : World} {b n base size m : Nat} {t : TypeId} {f : ByteArray → Option Value} {v : Value} {xs : List Value} (h : RMap w b n f) (ho : w.ownsRow base t size v m xs) : some b ≠ v.ownBlock := by
  rcases ho.2 with ⟨rfl, _⟩ | ⟨g, cap, cur, rfl, _, hb, _⟩
  · simp [Value.ownBlock]
  · intro e
    have e : b = g := by simpa [Value.ownBlock] using e
    subst e
    obtain ⟨_, _, _, h1, _⟩ := h
    rw [hb] at h1
    cases h1
theorem Rit.ne_own {w : World} {r b n cnt base size m : Nat} {t : TypeId} {f : ByteArray → Option Value} {D : List ByteArray} {v : Value} {xs : List Value} (h : Rit w r b n f D cnt) (ho : w.ownsRow base t size v m xs) : some r ≠ v.ownBlock := by
  rcases ho.2 with ⟨rfl, _⟩ | ⟨g, cap, cur, rfl, _, hb, _⟩
  · simp [Value.ownBlock]
  · intro e
    have e : r = g := by simpa [Value.ownBlock] using e
    subst e
    obtain ⟨_, _, _, _, _, _, _, _, _, _, _, _, _, h8, _⟩ := h
    rw [hb] at h8
    cases h8
theorem own_ne_block {w : World} {base size n : Nat} {t : TypeId} {v : Value} {xs : List Value} {r : Nat} (h : w.ownsRow base t size v n xs) (hr : some r ≠ v.ownBlock) : v.ownBlock = none ∨ v.ownBlock ≠ some r := by
  cases hv : v.ownBlock with
  | none => exact .inl rfl
  | some a => exact .inr (fun e => hr (by rw [hv, e]))
end Go.Proofs.YthmijakellfbiaaDoor
