/-
  impl.CommentsStyled. Conditions: none.
-/
import Derived.Test.YtdjnknkdnacbnaaStyF
import Derived.Test.YtdjnknkdnacbnaaFodG
namespace Go.Proofs.Ytdjnknkdnacbnaa
open Go.RowKit
set_option linter.unusedVariables false
set_option linter.unusedSimpArgs false

theorem cells49 : Try.prog.cellsOf 49 = 13 := by kernel_rfl
theorem byte49 : byteOfCell Try.prog Try.prog.depth 49 0 = some 0 := by kernel_rfl
theorem part_at0 (w : World) (r n : Nat) (h : w.shape? r = some (49, n)) : (partAt ⟨r, 0, none⟩ 0 0).run Try.prog w = .ok ⟨r, 0, none⟩ w := by
  simp [partAt, byteOf, go_sem, noView, viewAt, h, cells49, byte49]
theorem part_zero (W : World) (cs : Array Value) : (partAt ⟨W.heap.size, 0, none⟩ 0 0).run Try.prog (W.alloc (.cells cs 49)) = .ok ⟨W.heap.size, 0, none⟩ (W.alloc (.cells cs 49)) := by
  have h : (W.alloc (.cells cs 49)).heap[W.heap.size]? = some (.cells cs 49 (0, 0)) := heap_alloc_new W _
  exact part_at0 _ _ cs.size (by unfold World.shape?; rw [h])

theorem cells_sty (st : Int) (e : El) (u : Value) : cellsA (sty st e) u = cellsA e u := by unfold sty; split <;> rfl
theorem flat_sty (st : Int) (E : List El) (us : List Value) : flat cellsA (E.map (sty st)) us = flat cellsA E us := by
  unfold flat
  rw [List.zipWith_map_left]
  congr 2
  funext e u
  exact cells_sty st e u
theorem sty_len (st : Int) (e : El) : (sty st e).text.length = e.text.length := by
  unfold sty
  split
  · simp
  · rfl
theorem els_ends {base q f : Nat} {st : Int} {E : List El} {us : List Value} {v : Value} {n : Nat} {w w' : World} (h : FodInv base q f st E us v n n w w') (hn : E.length = n) (hl : us.length = E.length)
    (hinc : ∀ (j k : Nat) (u v : Value) (a b : Nat), j < k → us[j]? = some u → us[k]? = some v → u.ownBlock = some a → v.ownBlock = some b → a < b) : OwnF 60 cellsA w' base v (E.map (sty st)) := by
  refine ⟨us, ?_, by simp [hl], fun k u e hu he => ?_, hinc⟩
  · rw [flat_sty, List.length_map, hn]
    exact h.row
  · have hk : k < us.length := (List.getElem?_eq_some_iff.1 hu).1
    obtain ⟨e0, he0⟩ : ∃ e0, E[k]? = some e0 := ⟨_, List.getElem?_eq_getElem (by omega)⟩
    rw [List.getElem?_map, he0] at he
    injection he with he
    subst he
    have := h.coms k u e0 hu he0
    unfold txt at this
    rwa [if_pos (by omega)] at this

theorem not_slash {K B I : Int} {s : ByteArray} {rest : List ByteArray} (h : SignedEl ⟨K, B, I, s :: rest⟩) (hk : K ≠ 1) (hr : rest = []) (hs0 : 0 < s.size) : (s.toList == [47]) = false := by
  subst hr
  rw [beq_eq_false_iff_ne]
  intro e
  have hl : s.toList.length = s.size := by rw [Lib.toList_data]; rfl
  have h1 : s.size = 1 := by rw [e] at hl; simpa using hl.symm
  obtain ⟨a, b⟩ := h s rfl
  have hb : stB s ⟨#[47, 42]⟩ = false := by
    rw [Bool.eq_false_iff]
    intro hh
    rcases a.1 hh with h | h
    · exact hk h
    · simp at h
  rcases b hb with h | h
  · have e1 := (ha_at s hs0).1 h
    have e2 := ext1 s hs0
    have e3 : (s.extract 0 1).toList = s.toList := by
      rw [Lib.toList_data, Lib.extract_data, Lib.toList_data]
      exact List.take_of_length_le (by rw [List.drop_zero]; rw [Lib.toList_data] at hl; omega)
    rw [e3, e, e1] at e2
    exact absurd e2 (by decide)
  · obtain ⟨h2, _⟩ := (two_at s 47 47).1 h
    omega

set_option maxRecDepth 100000 in
set_option maxHeartbeats 1600000 in
theorem impl_styled (A : Option Addr) (c n : Nat) (st : Int) (hst : 0 ≤ st ∧ st ≤ 2) (E : List El) (w : World) (h : Els cellsI w A E) (hn : E.length = n) (hok : OkF E) (hful : FullE E) (hsig : ∀ (k : Nat) (e : El), E[k]? = some e → SignedEl e) (hbang : NoBang E) :
    Calls Try.prog 9 #[.slice A n c, .int .i64 st] w (Gives w n (E.map (sty st))) := by
  have hE1 : n ≤ 100 := by have := hok.1; omega
  have HE := Lib.hid hok
  have HR := Lib.hid h
  have Hful := Lib.hid hful
  have Hsig := Lib.hid hsig
  have Hbang := Lib.hid hbang
  have Hn := Lib.hid hn
  have hm : Calls Try.prog 17 #[.slice A n c] w (MadeA w E) := by
    have := make_A A c E w h ⟨by omega, hok.2⟩
    rwa [hn] at this
  have Hm := Lib.hid hm
  clear hok h hful hsig hbang hn hm
  go_enter Try.func9, Try.ntmps9
  go_wp2_with fail
  go_at_call 17
  refine Calls.mono Hm.out ?_
  rintro e' w1 ⟨v, rfl, ho, hb1⟩
  obtain ⟨A1, c1, rfl, -, -⟩ := made_at cellsA_four ho Hn.out
  obtain ⟨us, ho1, hcs⟩ := ho
  rw [Hn.out] at ho1
  have HB1 := Lib.hid hb1
  have hs1 := hb1.size
  have Ho := Lib.hid ho1
  have Hcs := Lib.hid hcs
  clear ho1 hcs hb1
  go_wp2
  go_loopw [7, 18] (fun r i wr => ∃ k : Nat, k ≤ n ∧ r = .bool true ∧ i = .int .i64 k ∧ Below (w1.heap.size + 1) (w1.alloc (.cells #[.slice A1 n c1] 38)) wr) (fun _ i _ => n - (intOf i).toNat)
  case atStart => exact ⟨0, by omega, rfl, rfl, Below.refl _ _⟩
  case round =>
    obtain ⟨k, hk, rfl, rfl, hbw⟩ := hrel
    have hsz := hbw.size
    simp at hsz
    by_cases hlt : k < n
    · obtain ⟨e, he⟩ : ∃ e, E[k]? = some e := ⟨_, List.getElem?_eq_getElem (by have := Hn.out; omega)⟩
      have hB0 : Below w.heap.size w wr := (HB1.out.alloc hs1 _).trans (hbw.mono (by omega))
      obtain ⟨ad, u, rfl, hb, hu, hc⟩ := HR.out.below hB0 k e he
      obtain ⟨h0, h1, h2, h3⟩ := four_of hc
      have hfl := fun s => Hful.out k e s he
      have hsg := Hsig.out k e he
      have hok := HE.out.2 k e he
      obtain ⟨K, B, I, ss⟩ := e
      simp only at h0 h1 h2 h3 hu
      obtain ⟨A', c', rfl, hlc, hr⟩ := hu
      have Hr := Lib.hid hr
      have Hfl := Lib.hid hfl
      have Hsg := Lib.hid hsg
      have hss := hok.2.2.2.2.1
      simp only at hss
      have HW := Lib.hid (hbw.alloc hsz (.cells #[.int .i64 K, .int .i64 B, .int .i64 I, .slice A' ss.length c'] 32))
      clear he hc hr hfl hsg hok hB0
      by_cases hK : K = 1
      · subst hK
        clear hbw
        go_wp2
        go_roundw
        case rel => exact ⟨k + 1, by omega, rfl, by go_num, HW.out⟩
        case measure => simp [intOf]; omega
      have hK' : (K == 1) = false := by rw [beq_eq_false_iff_ne]; exact hK
      by_cases hl1 : ss.length = 1
      · obtain ⟨s, rfl⟩ : ∃ s, ss = [s] := List.length_eq_one_iff.1 hl1
        obtain ⟨ad', s', rfl, hb', hs', hc'⟩ := Hr.out.line (k := 0) (by simp)
        simp at hs'
        subst hs'
        have hs0 := Hfl.out s (by simp)
        have hc3 := (World.cell?_alloc_lt wr (.cells #[.int .i64 K, .int .i64 B, .int .i64 I, .slice (some ad') 1 c'] 32) ad' hb').trans (show wr.cell? ad' = some (.string s) from hc')
        have hns := not_slash Hsg.out hK rfl hs0
        have he2 : s.toList.isEmpty = false := by
          have : s.toList.length = s.size := by rw [Lib.toList_data]; rfl
          cases h : s.toList with
          | nil => rw [h] at this; simp at this; omega
          | cons a b => rfl
        clear hl1 hc' hK hbw
        go_wp2
        go_roundw
        case rel => exact ⟨k + 1, by omega, rfl, by go_num, HW.out⟩
        case measure => simp [intOf]; omega
      · have d1 : ((ss.length : Int) == 1) = false := by rw [beq_eq_false_iff_ne]; omega
        have d2 : ((ss.length : Int) != 1) = true := by simp [bne, d1]
        clear hl1 hK hbw
        go_wp2
        go_roundw
        case rel => exact ⟨k + 1, by omega, rfl, by go_num, HW.out⟩
        case measure => simp [intOf]; omega
    · have HBW := Lib.hid hbw
      obtain rfl : k = n := by omega
      have hpz := part_zero wr
      have hfw : (wr.cell? ⟨w1.heap.size, 0, none⟩) = some (.slice A1 k c1) := (hbw.cell (by show w1.heap.size < _; omega)).trans (by simp)
      have hB0 : Below w.heap.size w wr := (HB1.out.alloc hs1 _).trans (hbw.mono (by omega))
      have HB0 := Lib.hid hB0
      have HP : Hid (∀ (cs : Array Value), cs = #[.int .i64 0, .int .i64 0, .int .i64 0, .int .i64 st, .bool false, .bool false, .bool false, .bool false, .bool false, .bool false, .bool false, .bool false, .bool false] →
          FodInv w.heap.size wr.heap.size w1.heap.size st E us (.slice A1 k c1) k 0 (wr.alloc (.cells cs 49)) (wr.alloc (.cells cs 49))) := by
        intro cs hcs
        have hbX : Below w1.heap.size w1 wr := (((Below.refl _ _).alloc (Nat.le_refl _) _).trans (hbw.mono (by omega)))
        have hbY : Below w1.heap.size w1 (wr.alloc (.cells cs 49)) := hbX.alloc hbX.size _
        have hblk : (wr.alloc (.cells cs 49)).heap[wr.heap.size]? = some (.cells cs 49 (0, 0)) := heap_alloc_new wr _
        have hcell := fun i => cell_of_row (wr.alloc (.cells cs 49)) wr.heap.size i cs 49 (0, 0) hblk
        refine ⟨Below.refl _ _, (World.cell?_alloc_lt wr _ _ (by show w1.heap.size < _; omega)).trans hfw, ownsRow_below Ho.out hbY, fun j u e hu he => ?_, ?_, ⟨false, ?_, fun _ => rfl⟩, ?_, Nat.le_refl _⟩
        · have : txt st 0 j e = e.text := if_neg (by omega)
          rw [this]
          exact (Hcs.out.below hbY).2.1 j u e hu he
        · rw [hcell, hcs]; rfl
        · rw [hcell, hcs]; rfl
        · unfold World.frozen?
          simp only [hblk]
          rfl
      clear hbw hB0
      go_wp2_with fail
      go_at_call 18
      refine (pass_any w.heap.size wr.heap.size w1.heap.size st hst E us A1 k c1 Hn.out _ (HP.out _ rfl) (by omega) (by omega) (by simp; omega) ?_ ?_ ?_ Hcs.out.1 Hcs.out.2.2 HE.out.2 Hful.out Hsig.out Hbang.out (by omega)).mono ?_
      · intro j u hu h
        have := (Hcs.out.lt hu h).2
        omega
      · intro j u hu h
        have := (Hcs.out.lt hu h).2
        omega
      · intro h
        have := (Ho.out.lt _ h).2
        omega
      rintro e' w2 ⟨rfl, hinv⟩
      have hcf := hinv.cell
      obtain ⟨A2, c2, hv2, -, hels⟩ := made_at (n := k) cellsA_four (els_ends hinv Hn.out Hcs.out.1 Hcs.out.2.2) (by rw [List.length_map]; exact Hn.out)
      injection hv2 with e1 _ e2
      subst e1
      subst e2
      have Hels := Lib.hid hels
      have HB2 : Hid (Below w.heap.size w w2) := (HB0.out.alloc (by omega) _).trans hinv.below
      have hs2 := HB2.out.size
      clear hinv hels
      go_wp2_with fail
      go_at_call 19
      refine (make_I' k A1 c1 (E.map (sty st)) _ (by rw [List.length_map]; exact Hn.out) Hels.out ⟨by omega, fun j e he => ?_⟩).mono ?_
      · rw [List.getElem?_map] at he
        cases h : E[j]? with
        | none => rw [h] at he; cases he
        | some e0 =>
          rw [h] at he
          injection he with he
          subst he
          rw [sty_len]
          exact texts_ok HE.out j e0 h
      rintro e' w3 ⟨⟨A3, c3, rfl, hc3, hels3⟩, hb3⟩
      have HX := Lib.hid (And.intro hc3 (And.intro hels3 (HB2.out.trans (hb3.mono hs2))))
      clear hels3 hb3 hc3
      go_wp2
      go_ret2
      exact ⟨A3, c3, rfl, HX.out.1, HX.out.2.1, HX.out.2.2⟩
end Go.Proofs.Ytdjnknkdnacbnaa
