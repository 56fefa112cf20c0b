/-
  spec.paragraph. Conditions: none.
-/
import Derived.Test.YtdjnknkdnacbnaaDoorTxtC
namespace Go.Proofs.YtdjnknkdnacbnaaDoor
open Go.RowKit
set_option linter.unusedVariables false
set_option linter.unusedSimpArgs false

/-- A line of a paragraph. -/
def lineOf (m k : Nat) (s : ByteArray) : List UInt8 := (if 0 < k then List.replicate m 32 else []) ++ s.data.toList ++ [10]
/-- The first lines of a paragraph. -/
def para (ss : List ByteArray) (m : Nat) : Nat → List UInt8
  | 0 => []
  | k + 1 => para ss m k ++ (match ss[k]? with | some s => lineOf m k s | none => [])
theorem para_step {ss : List ByteArray} {m k : Nat} {s : ByteArray} (h : ss[k]? = some s) : para ss m (k + 1) = para ss m k ++ lineOf m k s := by
  show para ss m k ++ _ = _
  rw [h]
theorem line_le {m k : Nat} {s : ByteArray} (hm : m ≤ 1000) (hs : s.size ≤ 200) : (lineOf m k s).length ≤ 1201 := by
  have : s.data.toList.length = s.size := Lib.size_eq s ▸ rfl
  unfold lineOf
  split <;> simp <;> omega
/-- Lines that are short and not empty. -/
def Lns (ss : List ByteArray) : Prop := ss.length ≤ 20 ∧ ∀ (j : Nat) (s : ByteArray), ss[j]? = some s → s.size ≤ 200 ∧ 0 < s.size
theorem para_le {ss : List ByteArray} {m : Nat} (h : Lns ss) (hm : m ≤ 1000) : ∀ k, k ≤ ss.length → (para ss m k).length ≤ 1201 * k
  | 0, _ => by simp [para]
  | k + 1, hk => by
    have hs : ss[k]? = some ss[k] := List.getElem?_eq_getElem (by omega)
    rw [para_step hs, List.length_append]
    have := para_le h hm k (by omega)
    have := line_le (k := k) hm (h.2 k _ hs).1
    omega
theorem not_empty {s : ByteArray} (h : 0 < s.size) : ¬ s.toList = [] ∧ s.toList.isEmpty = false := by
  have he : ¬ s.toList = [] := by
    intro h
    have : s.toList.length = s.size := by rw [Lib.toList_data]; rfl
    rw [h] at this; simp at this; omega
  exact ⟨he, by simpa using he⟩

set_option maxRecDepth 100000 in
set_option maxHeartbeats 800000 in
theorem para_any (base : Nat) (v : Value) (l : List UInt8) (A : Option Addr) (c : Nat) (ss : List ByteArray) (m : Nat) (hm : m ≤ 1000) (hl : l.length ≤ 90000000) (hss : Lns ss) (w : World) (hbase : base ≤ w.heap.size) (h : Byt w base v l)
    (hr : Reads w base 1 A ss.length (strs ss)) :
    Calls Tryd.prog 14 #[v, .slice A ss.length c, .int .i64 m] w (GaveB w base (l ++ para ss m ss.length)) := by
  obtain ⟨i5, hi5, hz5, hz5', hz5''⟩ := info_parts info_byte
  have Ho := Lib.hid h
  have Hl := Lib.hid hl
  have HR := Lib.hid hr
  have HS := Lib.hid hss
  have h20 := hss.1
  clear h hl hr hss
  go_enter Tryd.func14, Tryd.ntmps14
  go_wp2
  go_loopw [0, 7] (fun out i wr => ∃ k : Nat, k ≤ ss.length ∧ i = .int .i64 k ∧ Byt wr base out (l ++ para ss m k) ∧ Fr base w wr) (fun _ i _ => ss.length - (intOf i).toNat)
  case atStart => exact ⟨0, by omega, rfl, by simpa [para] using Ho.out, Fr.refl _ _⟩
  case round =>
    obtain ⟨k, hk, rfl, ho, hf⟩ := hrel
    have Ho2 := Lib.hid ho
    have Hf := Lib.hid hf
    have hsw := hf.1.size
    have Hb : Hid (base ≤ wr.heap.size) := by show _ ≤ _; omega
    by_cases hlt : k < ss.length
    · obtain ⟨ad, s, rfl, hb, hs, hc0⟩ := HR.out.line hlt
      have hc := (hf.1.cell (p := ad.add k) (by rw [block_of_add]; exact hb)).trans hc0
      have hs2 := HS.out.2 k s hs
      obtain ⟨hne, hne2⟩ := not_empty hs2.2
      have Hs2 := Lib.hid hs2
      have Hs := Lib.hid hs
      have Hlen : Hid ((l ++ para ss m k).length ≤ 90100000) := by
        have := Hl.out; have := para_le HS.out hm k (by omega)
        show _ ≤ _
        rw [List.length_append]; omega
      have z0 : (0 : Int) ≤ (k : Int) := by omega
      have z1 : (k : Int) < (ss.length : Int) := by omega
      clear ho hf hs hc0 hs2
      by_cases hk0 : 0 < k
      · have hk1 : (0 : Int) < (k : Int) := by omega
        go_wp2_with fail
        go_at_call 15
        refine (again_any base u0 (l ++ para ss m k) 32 m hm (by have := Hlen.out; omega) _ Hb.out Ho2.out).mono ?_
        rintro e' w2 ⟨v2, rfl, ho3, hf3⟩
        obtain ⟨L, hL⟩ : ∃ L : List UInt8, L = l ++ para ss m k ++ List.replicate m (32 : UInt8) := ⟨_, rfl⟩
        rw [← hL] at ho3
        have HO3 := Lib.hid ho3
        have Hlen2 : Hid (L.length ≤ 90101000) := by have := Hlen.out; show _ ≤ _; rw [hL, List.length_append, List.length_replicate]; omega
        have HL := Lib.hid hL
        clear hL
        have HF3 := Lib.hid hf3
        have hc2 := (hf3.1.cell (p := ad.add k) (by rw [block_of_add]; exact hb)).trans hc
        have Hb2 : Hid (base ≤ w2.heap.size) := by have := hf3.1.size; have := Hb.out; show _ ≤ _; omega
        clear ho3 hf3
        go_wp2_with (first
          | (at_builtin; refine Lib.wpList_append_own_string w2 rfl (.tmp 26) (.tmp 30) 38 9 rfl base 5 i5 Tryd.underlying38 Tryd.underlying9 hi5 hz5 hz5' hz5'' v2 L.length (Lib.byteCells L) rfl HO3.out s rfl (by have := Hlen2.out; have := Hs2.out.1; have : s.data.toList.length = s.size := Lib.size_eq s ▸ rfl; (try rw [List.length_append]); simp only [maxLen]; omega) (by have := Hlen2.out; have := Hs2.out.1; have : s.data.toList.length = s.size := Lib.size_eq s ▸ rfl; (try rw [List.length_append]); omega) Hb2.out ?_; intro v1 w3 hown3 hg3 hn3; have hO3 : Hid (Byt w3 base v1 (L ++ s.data.toList)) := (by show World.ownsRow _ _ _ _ _ _ _; rw [Lib.byteCells_append, List.length_append]; exact hown3); clear hown3 hn3)
          | (at_builtin; refine wpList_append_lies _ rfl (.tmp 31) (.tmp 32) _ rfl base 5 i5 _ 1 1 Tryd.underlying38 hi5 hz5 hz5' hz5'' rfl (by omega) v1 (L ++ s.data.toList).length (Lib.byteCells (L ++ s.data.toList)) rfl (hO3.out.alloc _) ⟨w3.heap.size, 0, none⟩ 1 1 [.int .u8 10] rfl rfl (news_at _ _ _ _ (by simp)) (by simp [Value.oneCell']) (by omega) (by have := Hlen2.out; have := Hs2.out.1; have : s.data.toList.length = s.size := Lib.size_eq s ▸ rfl; (try rw [List.length_append]); simp only [maxLen]; omega) (by have := Hlen2.out; have := Hs2.out.1; have : s.data.toList.length = s.size := Lib.size_eq s ▸ rfl; (try rw [List.length_append]); omega) (by have := hg3.size; have := Hb2.out; simp; omega) (w3.heap.size + 1) (by simp) ?_; intro g2 cap2 w4 hown4 hg4 hat4 hlt4))
        have hN : Hid (Byt w4 base (.slice (some ⟨g2, 0, none⟩) (L.length + s.size + 1) cap2) (l ++ para ss m (k + 1))) := by
          show World.ownsRow _ _ _ _ _ _ _
          rw [show L.length + s.size = (L ++ s.data.toList).length by rw [List.length_append]; rfl]
          have e : l ++ para ss m (k + 1) = L ++ s.data.toList ++ [10] := by rw [para_step Hs.out, HL.out]; simp [lineOf, hk0]
          rw [e, Lib.byteCells_append _ [10], List.length_append (bs := [10])]
          exact hown4
        have hs3 := hg3.size
        have hF := Lib.hid ((((Hf.out.trans HF3.out).grown HO3.out Hb2.out hg3).alloc (by have := Hb2.out; omega) _).grown (Byt.below hO3.out ((Below.refl _ _).alloc (Nat.le_refl _) _)) (by have := Hb2.out; simp; omega) hg4)
        clear hown4 hg4 hat4 hlt4 hg3
        go_wp2
        go_roundw
        case rel => exact ⟨k + 1, by omega, by go_num, hN.out, hF.out⟩
        case measure => simp [intOf]; omega
      · have hk1 : ¬ (0 : Int) < (k : Int) := by omega
        obtain ⟨L, hL⟩ : ∃ L : List UInt8, L = l ++ para ss m k := ⟨_, rfl⟩
        rw [← hL] at Ho2 Hlen
        have Hlen2 : Hid (L.length ≤ 90101000) := by have := Hlen.out; show _ ≤ _; omega
        have HL := Lib.hid hL
        clear hL
        go_wp2_with (first
          | (at_builtin; refine Lib.wpList_append_own_string wr rfl (.tmp 26) (.tmp 30) 38 9 rfl base 5 i5 Tryd.underlying38 Tryd.underlying9 hi5 hz5 hz5' hz5'' u0 L.length (Lib.byteCells L) rfl Ho2.out s rfl (by have := Hlen2.out; have := Hs2.out.1; have : s.data.toList.length = s.size := Lib.size_eq s ▸ rfl; (try rw [List.length_append]); simp only [maxLen]; omega) (by have := Hlen2.out; have := Hs2.out.1; have : s.data.toList.length = s.size := Lib.size_eq s ▸ rfl; (try rw [List.length_append]); omega) Hb.out ?_; intro v1 w3 hown3 hg3 hn3; have hO3 : Hid (Byt w3 base v1 (L ++ s.data.toList)) := (by show World.ownsRow _ _ _ _ _ _ _; rw [Lib.byteCells_append, List.length_append]; exact hown3); clear hown3 hn3)
          | (at_builtin; refine wpList_append_lies _ rfl (.tmp 31) (.tmp 32) _ rfl base 5 i5 _ 1 1 Tryd.underlying38 hi5 hz5 hz5' hz5'' rfl (by omega) v1 (L ++ s.data.toList).length (Lib.byteCells (L ++ s.data.toList)) rfl (hO3.out.alloc _) ⟨w3.heap.size, 0, none⟩ 1 1 [.int .u8 10] rfl rfl (news_at _ _ _ _ (by simp)) (by simp [Value.oneCell']) (by omega) (by have := Hlen2.out; have := Hs2.out.1; have : s.data.toList.length = s.size := Lib.size_eq s ▸ rfl; (try rw [List.length_append]); simp only [maxLen]; omega) (by have := Hlen2.out; have := Hs2.out.1; have : s.data.toList.length = s.size := Lib.size_eq s ▸ rfl; (try rw [List.length_append]); omega) (by have := hg3.size; have := Hb.out; simp; omega) (w3.heap.size + 1) (by simp) ?_; intro g2 cap2 w4 hown4 hg4 hat4 hlt4))
        have hN : Hid (Byt w4 base (.slice (some ⟨g2, 0, none⟩) (L.length + s.size + 1) cap2) (l ++ para ss m (k + 1))) := by
          show World.ownsRow _ _ _ _ _ _ _
          rw [show L.length + s.size = (L ++ s.data.toList).length by rw [List.length_append]; rfl]
          have e : l ++ para ss m (k + 1) = L ++ s.data.toList ++ [10] := by rw [para_step Hs.out, HL.out]; simp [lineOf, hk0]
          rw [e, Lib.byteCells_append _ [10], List.length_append (bs := [10])]
          exact hown4
        have hs3 := hg3.size
        have hF := Lib.hid (((Hf.out.grown Ho2.out Hb.out hg3).alloc (by have := Hb.out; omega) _).grown (Byt.below hO3.out ((Below.refl _ _).alloc (Nat.le_refl _) _)) (by have := Hb.out; simp; omega) hg4)
        clear hown4 hg4 hat4 hlt4 hg3
        go_wp2
        go_roundw
        case rel => exact ⟨k + 1, by omega, by go_num, hN.out, hF.out⟩
        case measure => simp [intOf]; omega
    · obtain rfl : ss.length = k := by omega
      clear ho hf
      go_wp2
      go_ret
      exact ⟨_, rfl, Ho2.out, Hf.out⟩
end Go.Proofs.YtdjnknkdnacbnaaDoor
