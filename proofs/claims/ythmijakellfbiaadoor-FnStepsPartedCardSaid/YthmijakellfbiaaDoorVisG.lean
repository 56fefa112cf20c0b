/-
  The names of the fields of the object that steps make. Conditions: none.
-/
import Derived.Test.YthmijakellfbiaaDoorVisF
import Derived.Test.YthmijakellfbiaaDoorSrt
import Derived.Deep.AppendLies
namespace Go.Proofs.YthmijakellfbiaaDoor
open Go.RowKit
set_option linter.unusedVariables false
set_option linter.unusedSimpArgs false

/-- A field that is there and not hidden. -/
def Shown (V : ByteArray → Option Int) (s : ByteArray) : Prop := ∃ h, V s = some h ∧ h ≠ 0
def Coll (V : ByteArray → Option Int) (D C : List ByteArray) : Prop := C.Nodup ∧ (∀ s, s ∈ C ↔ s ∈ D ∧ Shown V s) ∧ C.length ≤ D.length
theorem Coll.nil (V : ByteArray → Option Int) : Coll V [] [] := ⟨by simp, fun s => by simp, Nat.le_refl _⟩
theorem Coll.no {V : ByteArray → Option Int} {D C : List ByteArray} {s : ByteArray} (h : Coll V D C) (hs : V s = some 0) : Coll V (D ++ [s]) C := by
  refine ⟨h.1, fun t => ?_, by rw [List.length_append]; have := h.2.2; omega⟩
  rw [h.2.1 t, List.mem_append, List.mem_singleton]
  constructor
  · rintro ⟨a, b⟩
    exact ⟨.inl a, b⟩
  · rintro ⟨a | a, b⟩
    · exact ⟨a, b⟩
    · subst a
      obtain ⟨x, hx, hx0⟩ := b
      rw [hs] at hx
      injection hx with hx
      exact absurd hx.symm hx0
theorem Coll.yes {V : ByteArray → Option Int} {D C : List ByteArray} {s : ByteArray} {x : Int} (h : Coll V D C) (hs : V s = some x) (hx : ¬ x = 0) (hd : s ∉ D) : Coll V (D ++ [s]) (C ++ [s]) := by
  refine ⟨?_, fun t => ?_, by simp; exact h.2.2⟩
  · rw [List.nodup_append]
    refine ⟨h.1, by simp, fun a ha c hc => ?_⟩
    simp at hc
    subst hc
    intro e
    subst e
    exact hd ((h.2.1 a).1 ha).1
  · rw [List.mem_append, List.mem_singleton, h.2.1 t, List.mem_append, List.mem_singleton]
    constructor
    · rintro (⟨a, b⟩ | a)
      · exact ⟨.inl a, b⟩
      · subst a
        exact ⟨.inr rfl, x, hs, hx⟩
    · rintro ⟨a | a, b⟩
      · exact .inl ⟨a, b⟩
      · exact .inr a
theorem info_s : (Tryd.prog.info? 9).map (fun i => (i.zero, i.size, i.bytes)) = some (some (.string ⟨#[]⟩), 1, 16) := by kernel_rfl
def FlTo (w : World) (V : ByteArray → Option Int) (e : Ending) (w' : World) : Prop := ∃ u C, e = .returned u ∧ C.Nodup ∧ (∀ s, s ∈ C ↔ Shown V s) ∧ C.length ≤ 144 ∧ w'.ownsRow w.heap.size 9 1 u C.length (strs C) ∧ Below w.heap.size w w'
set_option maxRecDepth 100000 in
set_option maxHeartbeats 2000000 in
theorem fields_any (p : Nat) (v : Value) (o : OT) (w : World) (hp : Vob w p v) (ho : Obt w o v) (hn : cnt o ≤ 144) : Calls Tryd.prog 24 #[.pointer (some ⟨p, 0, none⟩), .int .i64 1] w (FlTo w (vis o)) := by
  obtain ⟨i9, hi9, hz9, hz9', hz9''⟩ := info_parts info_s
  have HV := Lib.hid (visObj_any p v o w hp ho)
  generalize vis o = V at HV ⊢
  generalize cnt o = n at HV hn
  clear hp ho
  go_enter Tryd.func24, Tryd.ntmps24
  go_wp2_with fail
  go_at_call 31
  refine HV.out.mono ?_
  rintro e w1 ⟨b, rfl, -, hm1, hb1⟩
  have HM1 := Lib.hid hm1
  have HB1 := Lib.hid hb1
  have hs1 := hb1.size
  clear hm1 hb1 HV
  go_wp2_with (at_range; refine wpList_rrange _ rfl (.tmp 9) 85 rfl _ _ Tryd.underlying85 b n (intv V) rfl HM1.out ?_; intro w2 cnt2 hr2 hb2 hs2)
  have HR2 := Lib.hid hr2
  have HB2 := Lib.hid (HB1.out.trans (hb2.mono hs1))
  have hw2 : w1.heap.size + 1 = w2.heap.size := hs2.symm
  have hbl := HM1.out.lt
  clear hr2 hb2 hs2
  go_frame
  go_loopw [5] (fun out wr => ∃ (D : List ByteArray) (cnt : Nat) (C : List ByteArray), Rit wr w1.heap.size b n (intv V) D cnt ∧ Coll V D C ∧ wr.ownsRow w.heap.size 9 1 out C.length (strs C) ∧ Below w.heap.size w wr) (fun _ wr => wr.rangeLeft b w1.heap.size)
  case atStart => exact ⟨[], _, [], HR2.out, Coll.nil V, World.ownsRow_nil _ _ _ _, HB2.out⟩
  case round =>
    obtain ⟨D, cnt, C, hr, hco, ho, hbw⟩ := hrel
    obtain ⟨wo, rfl⟩ : ∃ wo : World, wo = wr := ⟨_, rfl⟩
    have HR := Lib.hid hr
    have HCo := Lib.hid hco
    have HO := Lib.hid ho
    have HB := Lib.hid hbw
    have hsz := hbw.size
    have hDl := hr.len
    have hCl : C.length ≤ 144 := by have := hco.2.2; omega
    have HNE := Lib.hid (hr.ne_own ho)
    have HNB := Lib.hid (hr.rmap.ne_own ho)
    clear hr hco ho hbw
    go_wp2_with (first
      | (at_next; refine wpList_rnext _ rfl (.tmp 10) rfl b w1.heap.size n (intv V) D cnt rfl HR.out (fun hl => ?_) (fun s v w3 cnt3 hx hen => ?_); rotate_left; obtain ⟨x, hgx, rfl⟩ := intv_some hx.out.1; have HGX := Lib.hid hgx; clear hgx; (rcases Classical.em (x = 0) with rfl | hx0); rotate_left; have hxb : (x != 0) = true := (by simpa using hx0); have HX0 := Lib.hid hx0; clear hx0; rotate_left)
      | (at_builtin; refine wpList_append_lies _ rfl (.tmp 22) (.tmp 24) _ rfl w.heap.size 9 i9 _ 1 16 Tryd.underlying23 hi9 hz9 hz9' hz9'' rfl (by omega) u5 C.length (strs C) rfl ((HO.out.kept hx.out.2.2.2.2.1 (own_ne_block HO.out HNE.out)).alloc _) ⟨w3.heap.size, 0, none⟩ 1 1 [.string s] rfl rfl (news_at _ _ _ _ (by simp)) (by simp [Value.oneCell']) (by omega) (by simp only [maxLen]; omega) (by omega) (by have := hx.out.2.2.2.2.2; simp; omega) (w3.heap.size + 1) (by simp) ?_; intro g4 cap4 w4 hown4 hg4 hat4 hlt4))
    · have HD : Hid (∀ s, s ∈ C ↔ Shown V s) := fun s => by
        rw [HCo.out.2.1 s]
        refine ⟨fun h => h.2, fun h => ⟨hl.out s ?_, h⟩⟩
        obtain ⟨x, hx, _⟩ := h
        unfold intv
        rw [hx]
        rfl
      clear hl
      go_ret
      exact ⟨_, C, rfl, HCo.out.1, HD.out, hCl, HO.out, HB.out⟩
    · have HX := Lib.hid hx.out
      have hs2 := HX.out.2.2.2.2.2
      have HR5 := Lib.hid HX.out.2.2.1
      have HO5 := Lib.hid (HO.out.kept HX.out.2.2.2.2.1 (own_ne_block HO.out HNE.out))
      have HB5 := Lib.hid (HB.out.grown HX.out.2.2.2.2.1 hsz (fun a ha => by injection ha; omega))
      have HCo5 := Lib.hid (HCo.out.no HGX.out)
      have hle := HR.out.left_eq
      have hle5 := HR5.out.left_eq
      have hlt5 := HX.out.2.2.2.1
      have HLE : Hid (w3.rangeLeft b w1.heap.size < wo.rangeLeft b w1.heap.size) := Lib.hid (by rw [hle, hle5]; exact hlt5)
      exact ⟨⟨D ++ [s], _, C, HR5.out, HCo5.out, HO5.out, HB5.out⟩, HLE.out⟩
    · have HX := Lib.hid hx.out
      have hs2 := HX.out.2.2.2.2.2
      have HO3 := HO.out.kept HX.out.2.2.2.2.1 (own_ne_block HO.out HNE.out)
      have hne3 := (HX.out.2.2.1.alloc (.cells #[.string s] 9)).ne_own (HO3.alloc (.cells #[.string s] 9))
      have hnb3 := (HX.out.2.2.1.alloc (.cells #[.string s] 9)).rmap.ne_own (HO3.alloc (.cells #[.string s] 9))
      have HR4 := Lib.hid ((HX.out.2.2.1.alloc (.cells #[.string s] 9)).kept hg4 hnb3 hne3)
      have HO4 : Hid (w4.ownsRow w.heap.size 9 1 (.slice (some ⟨g4, 0, none⟩) (C.length + 1) cap4) (C ++ [s]).length (strs (C ++ [s]))) := by
        rw [List.length_append, show strs (C ++ [s]) = strs C ++ [.string s] by simp [strs]]
        exact Lib.hid hown4
      have HB4 := Lib.hid ((((HB.out.grown HX.out.2.2.2.2.1 hsz (fun a ha => by injection ha; omega)).alloc (by omega) (.cells #[.string s] 9)).grown hg4 (by simp; omega) (fun a ha => (HO.out.lt a ha).1)))
      have HCo4 := Lib.hid (HCo.out.yes HGX.out HX0.out HX.out.2.1)
      have hle := HR.out.left_eq
      have hle4 := HR4.out.left_eq
      have hlt5 := HX.out.2.2.2.1
      have HLE : Hid (w4.rangeLeft b w1.heap.size < wo.rangeLeft b w1.heap.size) := Lib.hid (by rw [hle, hle4]; exact hlt5)
      exact ⟨⟨D ++ [s], _, C ++ [s], HR4.out, HCo4.out, HO4.out, HB4.out⟩, HLE.out⟩
end Go.Proofs.YthmijakellfbiaaDoor
