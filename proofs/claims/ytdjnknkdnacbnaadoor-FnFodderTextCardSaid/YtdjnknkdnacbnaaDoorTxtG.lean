/-
  spec.FodderText. Conditions: none.
-/
import Derived.Test.YtdjnknkdnacbnaaDoorTxtF
namespace Go.Proofs.YtdjnknkdnacbnaaDoor
open Go.RowKit
set_option linter.unusedVariables false
set_option linter.unusedSimpArgs false

/-- The copy of an element. -/
def Cp (w : World) (q : Nat) (K B I : Int) (u : Value) : Prop := w.heap[q]? = some (.cells #[.int .i64 K, .int .i64 B, .int .i64 I, u] 30 (0, 0))
theorem Cp.new (w : World) (K B I : Int) (u : Value) : Cp (w.alloc (.cells #[.int .i64 K, .int .i64 B, .int .i64 I, u] 30)) w.heap.size K B I u := heap_alloc_new w _
theorem Cp.fr {base q : Nat} {w w' : World} {K B I : Int} {u : Value} (h : Cp w q K B I u) (hf : Fr base w w') : Cp w' q K B I u :=
  hf.2 q _ h (by simp) (by intro c fz hh; injection hh with _ h2; exact absurd h2 (by decide))
theorem Cp.cells {q : Nat} {w : World} {K B I : Int} {u : Value} (h : Cp w q K B I u) : w.cell? ⟨q, 0, none⟩ = some (.int .i64 K) ∧ w.cell? ⟨q, 1, none⟩ = some (.int .i64 B) ∧ w.cell? ⟨q, 2, none⟩ = some (.int .i64 I) ∧ w.cell? ⟨q, 3, none⟩ = some u :=
  ⟨by rw [Lib.cell_of_heap h]; rfl, by rw [Lib.cell_of_heap h]; rfl, by rw [Lib.cell_of_heap h]; rfl, by rw [Lib.cell_of_heap h]; rfl⟩

theorem Fr.of_drew {base : Nat} {w w' : World} (h : Fr base w.drew w') : Fr base w w' := ⟨⟨h.1.os, h.1.tape, h.1.output, h.1.size, h.1.block⟩, fun k o hk hb ho => h.2 k o hk hb ho⟩
/-- Bytes behind bytes. -/
theorem byt_append {w : World} {base : Nat} {v : Value} {l : List UInt8} {n : Nat} {cs : List Value} (m : List UInt8) (h : w.ownsRow base 5 1 v (l.length + n) (Lib.byteCells l ++ cs)) (hn : m.length = n) (hc : Lib.byteCells m = cs) : Byt w base v (l ++ m) := by
  subst hn hc
  show World.ownsRow _ _ _ _ _ _ _
  rw [List.length_append, Lib.byteCells_append]
  exact h

/-- The text of bytes of the own. -/
theorem byt_text {w : World} {base : Nat} {v : Value} {l : List UInt8} (h : Byt w base v l) : (convert 38 9 v).run Tryd.prog w = .ok (.string ⟨l.toArray⟩) w := by
  rcases h.2 with ⟨rfl, h0⟩ | ⟨g, cap, cur, rfl, _, hg, hnc, _, _, htk⟩
  · have : l = [] := List.eq_nil_of_length_eq_zero h0
    subst this
    exact Lib.run_convert_nil_bytes w _ _ _ 0 Tryd.underlying38 Tryd.underlying5 Tryd.underlying9
  · rw [Nat.mul_one] at htk
    exact run_convert_bytes_back w _ _ _ ⟨g, 0, none⟩ cap l Tryd.underlying38 Tryd.underlying5 Tryd.underlying9 (Lib.bytes_of_row hg htk)

theorem step_append_string {P : Program} (w : World) {ops : Array Oper} {o : Oper} {a : Act} {K : Act → World → Prop} {Q : Exit → Act → World → Prop} {E : Prop} (hgd : o.guard = none) (sl x : Operand) (t u : TypeId)
    (ho : o.op = .call { callee := .builtin .append, args := #[sl, x], argTypes := #[t, u] })
    (base : Nat) (e : TypeId) (i : TypeInfo) (ht : P.underlying t = some (.slice e)) (hu : P.underlying u = some .string) (hi : P.info? e = some i) (hz : i.zero = some (.int .u8 0))
    (hsize : i.size = 1) (hby : i.bytes = 1)
    (v : Value) (n : Nat) (xs : List Value) (hs : a.eval sl = v) (hown : w.ownsRow base e 1 v n xs) (s : ByteArray) (hx : a.eval x = .string s)
    (h63 : n + s.size ≤ maxLen) (hbytes : n + s.size ≤ 140737488355328) (hbase : base ≤ w.heap.size)
    (h : ∀ v' w', w'.ownsRow base e 1 v' (n + s.size) (xs ++ Lib.strCells s) → w.grownBy w' v.ownBlock → K (a.put o.dst v') w') :
    if Region.wanted o (yielded ops a.tmps) = true then Oper.wp P o a w K Q else E := by
  have hw : Region.wanted o (yielded ops a.tmps) = true := by simp [Region.wanted, hgd]
  rw [if_pos hw]
  obtain ⟨v', w', hr, h2, h3, h4⟩ := Lib.run_append_own_string (P := P) w base t u o.type e i ht hu hi hz hsize hby v n xs hown s h63 hbytes hbase
  unfold Oper.wp execOp
  simp only [ho, resolve, invoke, builtin, Sem.run_bind, Sem.run_pure, Result.andThen_ok, List.map_toArray, List.map_cons, List.map_nil, hs, hx, hr]
  exact h v' w' h2 h3

def TextIs (w : World) (l : List UInt8) (e : Ending) (w' : World) : Prop := e = .returned (.string ⟨l.toArray⟩) ∧ Below w.heap.size w w'

set_option maxRecDepth 100000 in
set_option maxHeartbeats 1600000 in
theorem spec_any (A : Option Addr) (c : Nat) (E : List El) (c0 sep fin : Bool) (w : World) (h : Els cellsI w A E) (hE : OkF E) (hF : FullE E) :
    Calls Tryd.prog 7 #[.slice A E.length c, .bool c0, .bool sep, .bool fin] w (TextIs w (textOf E c0 sep fin)) := by
  obtain ⟨i5, hi5, hz5, hz5', hz5''⟩ := info_parts info_byte
  have hE1 := hE.1
  have HE := Lib.hid hE
  have HF := Lib.hid hF
  have HR := Lib.hid h
  have HL : Hid (∀ k, k ≤ E.length → (run E fin c0 k).out.length ≤ 3000000 ∧ (run E fin c0 k).margin ≤ 1000) := fun k hk => by
    have := run_le (fin := fin) (c := c0) hE hF k hk
    omega
  clear h hE hF
  go_enter Tryd.func7, Tryd.ntmps7
  go_wp2
  go_loopw [1, 9, 10, 11] (fun cr out mg i wr => ∃ (k : Nat) (st : St), k ≤ E.length ∧ i = .int .i64 k ∧ Hid (st = run E fin c0 k) ∧ cr = .bool st.crowded ∧ mg = .int .i64 st.margin ∧ Byt wr w.heap.size out st.out ∧ Fr w.heap.size w wr) (fun _ _ _ i _ => E.length - (intOf i).toNat)
  case atStart => exact ⟨0, ⟨[], c0, 0⟩, by omega, rfl, rfl, rfl, rfl, Byt.nil _ _, Fr.refl _ _⟩
  case round =>
    obtain ⟨k, st, hk, rfl, hst, rfl, rfl, ho, hf⟩ := hrel
    have Hlen : Hid (st.out.length ≤ 3000000 ∧ st.margin ≤ 1000) := by rw [hst.out]; exact HL.out k hk
    have Ho := Lib.hid ho
    have Hf := Lib.hid hf
    have hsw := hf.1.size
    by_cases hlt : k < E.length
    · obtain ⟨e, he⟩ : ∃ e, E[k]? = some e := ⟨_, List.getElem?_eq_getElem hlt⟩
      have Hst : Hid (stepOf fin E.length k e st = run E fin c0 (k + 1)) := by show _ = _; rw [run_step he, hst.out]
      obtain ⟨ad, u, rfl, hb, hu, hc⟩ := HR.out k e he
      obtain ⟨g0, g1, g2, g3⟩ := four_of hc
      have h0 := cell_below g0 hf.1
      have h1 := cell_below g1 hf.1
      have h2 := cell_below g2 hf.1
      have h3 := cell_below g3 hf.1
      have hok := HE.out.2 k e he
      have Hful : Hid (∀ s ∈ e.text, 0 < s.size) := fun s hs => HF.out k e s he hs
      obtain ⟨cr, hcr⟩ : ∃ cr, st.crowded = cr := ⟨_, rfl⟩
      rw [hcr]
      obtain ⟨K, B, I, ss⟩ := e
      have hK := ok_k hok
      simp only at h0 h1 h2 h3 hu
      obtain ⟨A', c', rfl, hlc, hr⟩ := hu
      have Hr := Lib.hid hr
      have z0 : (0 : Int) ≤ (k : Int) := by omega
      have z1 : (k : Int) < (E.length : Int) := by omega
      have Hok := Lib.hid hok
      have HCp := Lib.hid (Cp.new wr K B I (.slice A' ss.length c'))
      clear he hc hr hok ho hf g0 g1 g2 g3 hst
      by_cases hK1 : K = 1
      · subst hK1
        obtain ⟨s, rfl⟩ : ∃ s, ss = [s] := List.length_eq_one_iff.1 (ok_1 Hok.out).1
        obtain ⟨ad', s', rfl, hb', hs', hcl⟩ := Hr.out.line (k := 0) (by simp)
        simp only [List.getElem?_cons_zero, Option.some.injEq] at hs'
        subst hs'
        have e0 : ad'.add 0 = ad' := by simp [Addr.add]
        rw [e0] at hcl
        have hl0 : wr.cell? ad' = some (.string s) := (Hf.out.1.cell (p := ad') hb').trans hcl
        have hbl : ad'.block < wr.heap.size := by omega
        have hs200 : s.size ≤ 200 := Hok.out.2.2.2.2.2.1 0 s rfl
        have hsl : s.data.toList.length = s.size := Lib.size_eq s ▸ rfl
        have Hnum : Hid (s.size ≤ 200 ∧ s.data.toList.length = s.size) := ⟨hs200, hsl⟩
        clear hK hs200 hsl e0
        cases cr
        · go_wp2_with (at_builtin; refine Lib.wpList_append_own_string _ rfl (.tmp 30) (.tmp 34) 38 9 rfl w.heap.size 5 i5 Tryd.underlying38 Tryd.underlying9 hi5 hz5 hz5' hz5'' u9 st.out.length (Lib.byteCells st.out) rfl (Ho.out.alloc _) s rfl (by have := Hlen.out; have := Hnum.out; simp only [maxLen]; omega) (by have := Hlen.out; have := Hnum.out; omega) (by simp; omega) ?_; intro v1 w3 hown3 hg3 hn3)
          have hN : Hid (Byt w3 w.heap.size v1 (st.out ++ s.data.toList)) := byt_append s.data.toList hown3 Hnum.out.2 rfl
          have hF := Lib.hid ((Hf.out.alloc hsw (.cells #[.int .i64 1, .int .i64 B, .int .i64 I, .slice (some ad') 1 c'] 30)).grown (Byt.below Ho.out ((Below.refl _ _).alloc (Nat.le_refl _) _)) (by simp; omega) hg3)
          clear hown3 hg3 hn3
          go_wp2
          go_roundw
          case rel => exact ⟨k + 1, ⟨st.out ++ s.data.toList, true, st.margin⟩, by omega, by go_num, (by show _ = _; rw [← Hst.out]; simp [stepOf, first, hcr]), rfl, rfl, hN.out, hF.out⟩
          case measure => simp [intOf]; omega
        · obtain ⟨L, hL⟩ : ∃ L : List UInt8, L = st.out ++ [32] := ⟨_, rfl⟩
          have HLl : Hid (L.length = st.out.length + 1) := by show _ = _; rw [hL, List.length_append]; rfl
          have HLe := Lib.hid hL
          clear hL
          go_wp2_with (first
            | (at_builtin; refine wpList_append_lies _ rfl (.tmp 27) (.tmp 28) _ rfl w.heap.size 5 i5 _ 1 1 Tryd.underlying38 hi5 hz5 hz5' hz5'' rfl (by omega) u9 st.out.length (Lib.byteCells st.out) rfl ((Ho.out.alloc _).alloc _) ⟨wr.heap.size + 1, 0, none⟩ 1 1 [.int .u8 32] rfl rfl (news_at _ _ _ _ (by simp)) (by simp [Value.oneCell']) (by omega) (by have := Hlen.out; simp only [maxLen]; omega) (by have := Hlen.out; omega) (by simp; omega) (wr.heap.size + 2) (by simp) ?_; intro g2 cap2 w4 hown4 hg4 hat4 hlt4; have hN4 : Hid (Byt w4 w.heap.size (.slice (some ⟨g2, 0, none⟩) (st.out.length + 1) cap2) L) := (by show Byt _ _ _ _; rw [HLe.out]; exact byt_append [32] hown4 rfl rfl); have hF4 := Lib.hid (((Hf.out.alloc hsw (.cells #[.int .i64 1, .int .i64 B, .int .i64 I, .slice (some ad') 1 c'] 30)).alloc (by simp; omega) (.cells #[.int .u8 32] 5)).grown (Byt.below Ho.out (((Below.refl _ _).alloc (Nat.le_refl _) _).alloc (by simp) _)) (by simp; omega) hg4); have d3 := ((HCp.out.fr (((Fr.refl w.heap.size _).alloc (by simp; omega) (.cells #[.int .u8 32] 5)).grown (Byt.below Ho.out (((Below.refl _ _).alloc (Nat.le_refl _) _).alloc (by simp) _)) (by simp; omega) hg4))).cells.2.2.2; have dl : w4.cell? ad' = some (.string s) := (hF4.out.1.cell (p := ad') hb').trans hcl; have hs4 := hF4.out.1.size; clear hown4 hg4 hat4 hlt4)
            | (at_builtin; refine Lib.wpList_append_own_string _ rfl (.tmp 30) (.tmp 34) 38 9 rfl w.heap.size 5 i5 Tryd.underlying38 Tryd.underlying9 hi5 hz5 hz5' hz5'' (.slice (some ⟨g2, 0, none⟩) (st.out.length + 1) cap2) L.length (Lib.byteCells L) rfl hN4.out s rfl (by have := Hlen.out; have := Hnum.out; have := HLl.out; simp only [maxLen]; omega) (by have := Hlen.out; have := Hnum.out; have := HLl.out; omega) hs4 ?_; intro v1 w3 hown3 hg3 hn3))
          have hN : Hid (Byt w3 w.heap.size v1 (L ++ s.data.toList)) := byt_append s.data.toList hown3 Hnum.out.2 rfl
          have hF := Lib.hid (hF4.out.grown hN4.out hs4 hg3)
          clear hown3 hg3 hn3 d3 dl
          go_wp2
          go_roundw
          case rel => exact ⟨k + 1, ⟨L ++ s.data.toList, true, st.margin⟩, by omega, by go_num, (by show _ = _; rw [← Hst.out, HLe.out]; simp [stepOf, first, hcr]), rfl, rfl, hN.out, hF.out⟩
          case measure => simp [intOf]; omega
      · have hm1 : st.margin ≤ 1000 := Hlen.out.2
        have hwr1 : IntKind.i64.wrap ((E.length : Int) - 1) = (E.length : Int) - 1 := by rw [IntKind.wrap_i64]; omega
        obtain ⟨b, rfl⟩ : ∃ b : Nat, B = (b : Int) := ⟨B.toNat, by have := Hok.out.1; simp only at this; omega⟩
        obtain ⟨j, rfl⟩ : ∃ j : Nat, I = (j : Int) := ⟨I.toNat, by have := Hok.out.2.2.1; simp only at this; omega⟩
        have HB : Hid (b ≤ 1000 ∧ j ≤ 1000) := by have h1 := Hok.out.2.1; have h2 := Hok.out.2.2.2.1; simp only at h1 h2; constructor <;> omega
        have HSt2 : Hid (k + 1 ≤ E.length → (run E fin c0 (k + 1)).out.length ≤ 3000000) := fun h => (HL.out _ h).1
        by_cases hK0 : K = 0
        · subst hK0
          clear hK hK1
          have hl1 := ok_0 Hok.out
          have hd : (fin = true ∧ k + 1 = E.length) ∨ fin = false ∨ fin = true ∧ (k : Int) < (E.length : Int) - 1 := by
            cases fin
            · exact .inr (.inl rfl)
            · by_cases h : k + 1 = E.length
              · exact .inl ⟨rfl, h⟩
              · exact .inr (.inr ⟨rfl, by omega⟩)
          have hskip : ∀ (f : Bool), ¬ (f = true ∧ k + 1 = E.length) → (f && decide (k + 1 = E.length)) = false := fun f hf => by cases f <;> simp_all
          have Hskip := Lib.hid hskip
          clear hskip
          by_cases hss : ss = []
          · subst hss
            obtain ⟨L, hL⟩ : ∃ L : List UInt8, L = st.out ++ [10] := ⟨_, rfl⟩
            have HLe := Lib.hid hL
            have HLl : Hid (L.length ≤ 4000000) := by show _ ≤ _; have := Hlen.out; rw [hL, List.length_append, List.length_singleton]; omega
            have HX1 : Hid (fin = true ∧ k + 1 = E.length → run E fin c0 (k + 1) = ⟨L, false, j⟩) := fun h => by rw [← Hst.out, hL]; obtain ⟨rfl, h2⟩ := h; simp [stepOf, tailOf, h2]
            have HX2 : Hid (¬ (fin = true ∧ k + 1 = E.length) → run E fin c0 (k + 1) = ⟨L ++ List.replicate b 10 ++ List.replicate j 32, false, j⟩) := fun h => by rw [← Hst.out, hL]; simp [stepOf, tailOf, Hskip.out _ h]
            clear hL hl1
            rcases hd with ⟨rfl, hke⟩ | rfl | ⟨rfl, z2⟩
            · have z2 : ¬ (k : Int) < (E.length : Int) - 1 := by omega
              have HXs := Lib.hid (HX1.out ⟨rfl, hke⟩)
              clear hke
              go_wp2_with (at_builtin; refine wpList_append_lies _ rfl (.tmp 51) (.tmp 52) _ rfl w.heap.size 5 i5 _ 1 1 Tryd.underlying38 hi5 hz5 hz5' hz5'' rfl (by omega) u9 st.out.length (Lib.byteCells st.out) rfl ((Ho.out.alloc _).alloc _) ⟨wr.heap.size + 1, 0, none⟩ 1 1 [.int .u8 10] rfl rfl (news_at _ _ _ _ (by simp)) (by simp [Value.oneCell']) (by omega) (by have := Hlen.out; simp only [maxLen]; omega) (by have := Hlen.out; omega) (by simp; omega) (wr.heap.size + 2) (by simp) ?_; intro g5 cap5 w5 hown5 hg5 hat5 hlt5; have HN5 : Hid (Byt w5 w.heap.size (.slice (some ⟨g5, 0, none⟩) (st.out.length + 1) cap5) L) := (by show Byt _ _ _ _; rw [HLe.out]; exact byt_append [10] hown5 rfl rfl); have HF5 := Lib.hid (((Hf.out.alloc hsw (.cells #[.int .i64 0, .int .i64 b, .int .i64 j, .slice A' 0 c'] 30)).alloc (by simp; omega) (.cells #[.int .u8 10] 5)).grown (Byt.below Ho.out (((Below.refl _ _).alloc (Nat.le_refl _) _).alloc (by simp) _)) (by simp; omega) hg5); have HC5 := Lib.hid (HCp.out.fr (((Fr.refl w.heap.size _).alloc (by simp; omega) (.cells #[.int .u8 10] 5)).grown (Byt.below Ho.out (((Below.refl _ _).alloc (Nat.le_refl _) _).alloc (by simp) _)) (by simp; omega) hg5)); obtain ⟨d50, d51, d52, d53⟩ := HC5.out.cells; clear hown5 hg5 hat5 hlt5 d50 d53)
              go_roundw
              case rel => exact ⟨k + 1, ⟨L, false, j⟩, by omega, by go_num, (by show _ = _; rw [HXs.out]), rfl, rfl, HN5.out, HF5.out⟩
              case measure => simp [intOf]; omega
            all_goals
              have HXn := Lib.hid (HX2.out (fun h => by first | exact absurd h.1 (by decide) | omega))
              go_wp2_with (at_builtin; refine wpList_append_lies _ rfl (.tmp 51) (.tmp 52) _ rfl w.heap.size 5 i5 _ 1 1 Tryd.underlying38 hi5 hz5 hz5' hz5'' rfl (by omega) u9 st.out.length (Lib.byteCells st.out) rfl ((Ho.out.alloc _).alloc _) ⟨wr.heap.size + 1, 0, none⟩ 1 1 [.int .u8 10] rfl rfl (news_at _ _ _ _ (by simp)) (by simp [Value.oneCell']) (by omega) (by have := Hlen.out; simp only [maxLen]; omega) (by have := Hlen.out; omega) (by simp; omega) (wr.heap.size + 2) (by simp) ?_; intro g5 cap5 w5 hown5 hg5 hat5 hlt5; have HN5 : Hid (Byt w5 w.heap.size (.slice (some ⟨g5, 0, none⟩) (st.out.length + 1) cap5) L) := (by show Byt _ _ _ _; rw [HLe.out]; exact byt_append [10] hown5 rfl rfl); have HF5 := Lib.hid (((Hf.out.alloc hsw (.cells #[.int .i64 0, .int .i64 b, .int .i64 j, .slice A' 0 c'] 30)).alloc (by simp; omega) (.cells #[.int .u8 10] 5)).grown (Byt.below Ho.out (((Below.refl _ _).alloc (Nat.le_refl _) _).alloc (by simp) _)) (by simp; omega) hg5); have HC5 := Lib.hid (HCp.out.fr (((Fr.refl w.heap.size _).alloc (by simp; omega) (.cells #[.int .u8 10] 5)).grown (Byt.below Ho.out (((Below.refl _ _).alloc (Nat.le_refl _) _).alloc (by simp) _)) (by simp; omega) hg5)); obtain ⟨d50, d51, d52, d53⟩ := HC5.out.cells; clear hown5 hg5 hat5 hlt5 d50 d53)
              have hs5 := HF5.out.1.size
              have HA1 : Hid (Calls Tryd.prog 15 #[.slice (some ⟨g5, 0, none⟩) (st.out.length + 1) cap5, .int .u8 10, .int .i64 b] w5.drew (GaveB w5.drew w.heap.size (L ++ List.replicate b 10))) :=
                again_any w.heap.size _ L 10 b HB.out.1 (by have := HLl.out; omega) w5.drew (by show _ ≤ w5.heap.size; omega) HN5.out
              have HA2 : Hid (∀ v W, w.heap.size ≤ W.heap.size → Byt W w.heap.size v (L ++ List.replicate b 10) → Calls Tryd.prog 15 #[v, .int .u8 32, .int .i64 j] W (GaveB W w.heap.size (L ++ List.replicate b 10 ++ List.replicate j 32))) := fun v W hW hb =>
                again_any w.heap.size v (L ++ List.replicate b 10) 32 j HB.out.2 (by have := HLl.out; have := HB.out.1; rw [List.length_append, List.length_replicate]; omega) W hW hb
              go_region_held3 (fun w' => w'.cell? ⟨wr.heap.size, 1, none⟩ = some (.int .i64 b) ∧ w'.cell? ⟨wr.heap.size, 2, none⟩ = some (.int .i64 j))
                (first | go_keep | exact ⟨dd1, dd2⟩ | exact ⟨dd3, dd4⟩)
                ((first
                  | (go_at_call 15; refine (HA2.out v6 w6 (by have := Hf6.out.1.size; omega) Ho6.out).mono ?_; rintro e' w7 ⟨v7, rfl, ho7, hf7⟩; have Ho7 := Lib.hid ho7; have Hf7 := Lib.hid (Hf6.out.trans hf7); obtain ⟨dd5, dd3, dd4, ddy⟩ := (HC5.out.fr Hf7.out).cells; clear ho7 hf7)
                  | (go_at_call 15; refine HA1.out.mono ?_; rintro e' w6 ⟨v6, rfl, ho6, hf6⟩; have Ho6 := Lib.hid ho6; have Hf6 : Hid (Fr w.heap.size w5 w6) := Fr.of_drew hf6; obtain ⟨dd0, dd1, dd2, ddx⟩ := (HC5.out.fr Hf6.out).cells; clear ho6 hf6)))
              go_wp2
              go_roundw
              case rel => exact ⟨k + 1, ⟨L ++ List.replicate b 10 ++ List.replicate j 32, false, j⟩, by omega, by go_num, (by show _ = _; rw [HXn.out]), rfl, rfl, Ho7.out, HF5.out.trans Hf7.out⟩
              case measure => simp [intOf]; omega
          · obtain ⟨s, rfl⟩ : ∃ s, ss = [s] := List.length_eq_one_iff.1 (by have : ss.length ≠ 0 := fun h => hss (List.eq_nil_of_length_eq_zero h); omega)
            obtain ⟨ad', s', rfl, hb', hs', hcl⟩ := Hr.out.line (k := 0) (by simp)
            simp only [List.getElem?_cons_zero, Option.some.injEq] at hs'
            subst hs'
            have e0 : ad'.add 0 = ad' := by simp [Addr.add]
            rw [e0] at hcl
            have hl0 : wr.cell? ad' = some (.string s) := (Hf.out.1.cell (p := ad') hb').trans hcl
            have hbl : ad'.block < wr.heap.size := by omega
            have Hbl := Lib.hid hbl
            have Hb' := Lib.hid hb'
            have Hcl := Lib.hid hcl
            have hs200 : s.size ≤ 200 := Hok.out.2.2.2.2.2.1 0 s rfl
            have hsl : s.data.toList.length = s.size := Lib.size_eq s ▸ rfl
            have Hnum : Hid (s.size ≤ 200 ∧ s.data.toList.length = s.size) := ⟨hs200, hsl⟩
            obtain ⟨L1, hL1⟩ : ∃ L1 : List UInt8, L1 = st.out ++ [32, 32] := ⟨_, rfl⟩
            obtain ⟨L2, hL2⟩ : ∃ L2 : List UInt8, L2 = L1 ++ s.data.toList := ⟨_, rfl⟩
            obtain ⟨L, hL⟩ : ∃ L : List UInt8, L = L2 ++ [10] := ⟨_, rfl⟩
            have HL1l : Hid (L1.length = st.out.length + 2) := by show _ = _; rw [hL1, List.length_append]; rfl
            have HL2l : Hid (L2.length ≤ 3000300) := by show _ ≤ _; have := Hlen.out; rw [hL2, List.length_append, HL1l.out, hsl]; omega
            have HLl : Hid (L.length ≤ 4000000) := by show _ ≤ _; have := HL2l.out; rw [hL, List.length_append, List.length_singleton]; omega
            have HLe := Lib.hid hL
            have HL1e := Lib.hid hL1
            have HL2e := Lib.hid hL2
            have HX1 : Hid (fin = true ∧ k + 1 = E.length → run E fin c0 (k + 1) = ⟨L, false, j⟩) := fun h => by rw [← Hst.out, hL, hL2, hL1]; obtain ⟨rfl, h2⟩ := h; simp [stepOf, tailOf, first, h2]
            have HX2 : Hid (¬ (fin = true ∧ k + 1 = E.length) → run E fin c0 (k + 1) = ⟨L ++ List.replicate b 10 ++ List.replicate j 32, false, j⟩) := fun h => by rw [← Hst.out, hL, hL2, hL1]; simp [stepOf, tailOf, first, Hskip.out _ h]
            clear hL hL1 hL2 hl1 hs200 hsl hss e0 hcl
            rcases hd with ⟨rfl, hke⟩ | rfl | ⟨rfl, z2⟩
            · have z2 : ¬ (k : Int) < (E.length : Int) - 1 := by omega
              have HXs := Lib.hid (HX1.out ⟨rfl, hke⟩)
              clear hke
              go_wp2
              go_region_held3 (fun w' => w'.cell? ⟨wr.heap.size, 3, none⟩ = some (.slice (some ad') 1 c') ∧ w'.cell? ad' = some (.string s))
                (first | go_keep | exact ⟨d3, dl⟩ | exact ⟨d33, dl3⟩)
                ((first
                  | (refine step_append_lies _ (by rfl) (.tmp 43) (.tmp 44) _ (by rfl) w.heap.size 5 i5 _ 1 1 Tryd.underlying38 hi5 hz5 hz5' hz5'' rfl (by omega) u9 st.out.length (Lib.byteCells st.out) (by rfl) ((Ho.out.alloc _).alloc _) ⟨wr.heap.size + 1, 0, none⟩ 2 2 [.int .u8 32, .int .u8 32] (by rfl) (by rfl) (news_at _ _ _ _ (by simp)) (by simp [Value.oneCell']) (by omega) (by have := Hlen.out; simp only [maxLen]; omega) (by have := Hlen.out; omega) (by simp; omega) (wr.heap.size + 2) (by simp) ?_; intro g4 cap4 w4 hown4 hg4 hat4 hlt4; have hN4 : Hid (Byt w4 w.heap.size (.slice (some ⟨g4, 0, none⟩) (st.out.length + 2) cap4) L1) := (by show Byt _ _ _ _; rw [HL1e.out]; exact byt_append [32, 32] hown4 rfl rfl); have hF4 := Lib.hid ((((Hf.out.alloc hsw (.cells #[.int .i64 0, .int .i64 b, .int .i64 j, .slice (some ad') 1 c'] 30)).alloc (by simp; omega) (.cells #[.int .u8 32, .int .u8 32] 5)).drew).grown (Byt.below Ho.out ((((Below.refl _ _).alloc (Nat.le_refl _) _).alloc (by simp) _).drew)) (by simp; omega) hg4); have HC4 := Lib.hid (HCp.out.fr ((((Fr.refl w.heap.size _).alloc (by simp; omega) (.cells #[.int .u8 32, .int .u8 32] 5)).drew).grown (Byt.below Ho.out ((((Below.refl _ _).alloc (Nat.le_refl _) _).alloc (by simp) _).drew)) (by simp; omega) hg4)); have d3 := HC4.out.cells.2.2.2; have dl : w4.cell? ad' = some (.string s) := (hF4.out.1.cell (p := ad') Hb'.out).trans Hcl.out; have hs4 := hF4.out.1.size; clear hown4 hg4 hat4 hlt4)
                  | (refine step_append_string _ (by rfl) (.tmp 45) (.tmp 49) 38 9 (by rfl) w.heap.size 5 i5 Tryd.underlying38 Tryd.underlying9 hi5 hz5 hz5' hz5'' (.slice (some ⟨g4, 0, none⟩) (st.out.length + 2) cap4) L1.length (Lib.byteCells L1) (by rfl) hN4.out s (by rfl) (by have := Hlen.out; have := Hnum.out; have := HL1l.out; simp only [maxLen]; omega) (by have := Hlen.out; have := Hnum.out; have := HL1l.out; omega) hs4 ?_; intro v3 w3 hown3 hg3; have hN3 : Hid (Byt w3 w.heap.size v3 L2) := (by show Byt _ _ _ _; rw [HL2e.out]; exact byt_append s.data.toList hown3 Hnum.out.2 rfl); have hF3 := Lib.hid (hF4.out.grown hN4.out hs4 hg3); have HC3 := Lib.hid (HC4.out.fr ((Fr.refl w.heap.size _).grown hN4.out hs4 hg3)); have d33 := HC3.out.cells.2.2.2; have dl3 : w3.cell? ad' = some (.string s) := (hF3.out.1.cell (p := ad') Hb'.out).trans Hcl.out; have hs3 := hF3.out.1.size; clear hown3 hg3)))
              go_wp2_with (at_builtin; refine wpList_append_lies _ rfl (.tmp 51) (.tmp 52) _ rfl w.heap.size 5 i5 _ 1 1 Tryd.underlying38 hi5 hz5 hz5' hz5'' rfl (by omega) v3 L2.length (Lib.byteCells L2) rfl (hN3.out.alloc _) ⟨w3.heap.size, 0, none⟩ 1 1 [.int .u8 10] rfl rfl (news_at _ _ _ _ (by simp)) (by simp [Value.oneCell']) (by omega) (by have := HL2l.out; simp only [maxLen]; omega) (by have := HL2l.out; omega) (by simp; omega) (w3.heap.size + 1) (by simp) ?_; intro g5 cap5 w5 hown5 hg5 hat5 hlt5; have HN5 : Hid (Byt w5 w.heap.size (.slice (some ⟨g5, 0, none⟩) (L2.length + 1) cap5) L) := (by show Byt _ _ _ _; rw [HLe.out]; exact byt_append [10] hown5 rfl rfl); have HF5 := Lib.hid ((hF3.out.alloc hs3 (.cells #[.int .u8 10] 5)).grown (Byt.below hN3.out ((Below.refl _ _).alloc (Nat.le_refl _) _)) (by simp; omega) hg5); have HC5 := Lib.hid (HC3.out.fr (((Fr.refl w.heap.size _).alloc hs3 (.cells #[.int .u8 10] 5)).grown (Byt.below hN3.out ((Below.refl _ _).alloc (Nat.le_refl _) _)) (by simp; omega) hg5)); obtain ⟨d50, d51, d52, d53⟩ := HC5.out.cells; clear hown5 hg5 hat5 hlt5 d50 d53)
              go_roundw
              case rel => exact ⟨k + 1, ⟨L, false, j⟩, by omega, by go_num, (by show _ = _; rw [HXs.out]), rfl, rfl, HN5.out, HF5.out⟩
              case measure => simp [intOf]; omega
            all_goals
              have HXn := Lib.hid (HX2.out (fun h => by first | exact absurd h.1 (by decide) | omega))
              go_wp2
              go_region_held3 (fun w' => w'.cell? ⟨wr.heap.size, 3, none⟩ = some (.slice (some ad') 1 c') ∧ w'.cell? ad' = some (.string s))
                (first | go_keep | exact ⟨d3, dl⟩ | exact ⟨d33, dl3⟩)
                ((first
                  | (refine step_append_lies _ (by rfl) (.tmp 43) (.tmp 44) _ (by rfl) w.heap.size 5 i5 _ 1 1 Tryd.underlying38 hi5 hz5 hz5' hz5'' rfl (by omega) u9 st.out.length (Lib.byteCells st.out) (by rfl) ((Ho.out.alloc _).alloc _) ⟨wr.heap.size + 1, 0, none⟩ 2 2 [.int .u8 32, .int .u8 32] (by rfl) (by rfl) (news_at _ _ _ _ (by simp)) (by simp [Value.oneCell']) (by omega) (by have := Hlen.out; simp only [maxLen]; omega) (by have := Hlen.out; omega) (by simp; omega) (wr.heap.size + 2) (by simp) ?_; intro g4 cap4 w4 hown4 hg4 hat4 hlt4; have hN4 : Hid (Byt w4 w.heap.size (.slice (some ⟨g4, 0, none⟩) (st.out.length + 2) cap4) L1) := (by show Byt _ _ _ _; rw [HL1e.out]; exact byt_append [32, 32] hown4 rfl rfl); have hF4 := Lib.hid ((((Hf.out.alloc hsw (.cells #[.int .i64 0, .int .i64 b, .int .i64 j, .slice (some ad') 1 c'] 30)).alloc (by simp; omega) (.cells #[.int .u8 32, .int .u8 32] 5)).drew).grown (Byt.below Ho.out ((((Below.refl _ _).alloc (Nat.le_refl _) _).alloc (by simp) _).drew)) (by simp; omega) hg4); have HC4 := Lib.hid (HCp.out.fr ((((Fr.refl w.heap.size _).alloc (by simp; omega) (.cells #[.int .u8 32, .int .u8 32] 5)).drew).grown (Byt.below Ho.out ((((Below.refl _ _).alloc (Nat.le_refl _) _).alloc (by simp) _).drew)) (by simp; omega) hg4)); have d3 := HC4.out.cells.2.2.2; have dl : w4.cell? ad' = some (.string s) := (hF4.out.1.cell (p := ad') Hb'.out).trans Hcl.out; have hs4 := hF4.out.1.size; clear hown4 hg4 hat4 hlt4)
                  | (refine step_append_string _ (by rfl) (.tmp 45) (.tmp 49) 38 9 (by rfl) w.heap.size 5 i5 Tryd.underlying38 Tryd.underlying9 hi5 hz5 hz5' hz5'' (.slice (some ⟨g4, 0, none⟩) (st.out.length + 2) cap4) L1.length (Lib.byteCells L1) (by rfl) hN4.out s (by rfl) (by have := Hlen.out; have := Hnum.out; have := HL1l.out; simp only [maxLen]; omega) (by have := Hlen.out; have := Hnum.out; have := HL1l.out; omega) hs4 ?_; intro v3 w3 hown3 hg3; have hN3 : Hid (Byt w3 w.heap.size v3 L2) := (by show Byt _ _ _ _; rw [HL2e.out]; exact byt_append s.data.toList hown3 Hnum.out.2 rfl); have hF3 := Lib.hid (hF4.out.grown hN4.out hs4 hg3); have HC3 := Lib.hid (HC4.out.fr ((Fr.refl w.heap.size _).grown hN4.out hs4 hg3)); have d33 := HC3.out.cells.2.2.2; have dl3 : w3.cell? ad' = some (.string s) := (hF3.out.1.cell (p := ad') Hb'.out).trans Hcl.out; have hs3 := hF3.out.1.size; clear hown3 hg3)))
              go_wp2_with (at_builtin; refine wpList_append_lies _ rfl (.tmp 51) (.tmp 52) _ rfl w.heap.size 5 i5 _ 1 1 Tryd.underlying38 hi5 hz5 hz5' hz5'' rfl (by omega) v3 L2.length (Lib.byteCells L2) rfl (hN3.out.alloc _) ⟨w3.heap.size, 0, none⟩ 1 1 [.int .u8 10] rfl rfl (news_at _ _ _ _ (by simp)) (by simp [Value.oneCell']) (by omega) (by have := HL2l.out; simp only [maxLen]; omega) (by have := HL2l.out; omega) (by simp; omega) (w3.heap.size + 1) (by simp) ?_; intro g5 cap5 w5 hown5 hg5 hat5 hlt5; have HN5 : Hid (Byt w5 w.heap.size (.slice (some ⟨g5, 0, none⟩) (L2.length + 1) cap5) L) := (by show Byt _ _ _ _; rw [HLe.out]; exact byt_append [10] hown5 rfl rfl); have HF5 := Lib.hid ((hF3.out.alloc hs3 (.cells #[.int .u8 10] 5)).grown (Byt.below hN3.out ((Below.refl _ _).alloc (Nat.le_refl _) _)) (by simp; omega) hg5); have HC5 := Lib.hid (HC3.out.fr (((Fr.refl w.heap.size _).alloc hs3 (.cells #[.int .u8 10] 5)).grown (Byt.below hN3.out ((Below.refl _ _).alloc (Nat.le_refl _) _)) (by simp; omega) hg5)); obtain ⟨d50, d51, d52, d53⟩ := HC5.out.cells; clear hown5 hg5 hat5 hlt5 d50 d53)
              have hs5 := HF5.out.1.size
              have HA1 : Hid (Calls Tryd.prog 15 #[.slice (some ⟨g5, 0, none⟩) (L2.length + 1) cap5, .int .u8 10, .int .i64 b] w5.drew (GaveB w5.drew w.heap.size (L ++ List.replicate b 10))) :=
                again_any w.heap.size _ L 10 b HB.out.1 (by have := HLl.out; omega) w5.drew (by show _ ≤ w5.heap.size; omega) HN5.out
              have HA2 : Hid (∀ v W, w.heap.size ≤ W.heap.size → Byt W w.heap.size v (L ++ List.replicate b 10) → Calls Tryd.prog 15 #[v, .int .u8 32, .int .i64 j] W (GaveB W w.heap.size (L ++ List.replicate b 10 ++ List.replicate j 32))) := fun v W hW hb =>
                again_any w.heap.size v (L ++ List.replicate b 10) 32 j HB.out.2 (by have := HLl.out; have := HB.out.1; rw [List.length_append, List.length_replicate]; omega) W hW hb
              go_region_held3 (fun w' => w'.cell? ⟨wr.heap.size, 1, none⟩ = some (.int .i64 b) ∧ w'.cell? ⟨wr.heap.size, 2, none⟩ = some (.int .i64 j))
                (first | go_keep | exact ⟨dd1, dd2⟩ | exact ⟨dd3, dd4⟩)
                ((first
                  | (go_at_call 15; refine (HA2.out v6 w6 (by have := Hf6.out.1.size; omega) Ho6.out).mono ?_; rintro e' w7 ⟨v7, rfl, ho7, hf7⟩; have Ho7 := Lib.hid ho7; have Hf7 := Lib.hid (Hf6.out.trans hf7); obtain ⟨dd5, dd3, dd4, ddy⟩ := (HC5.out.fr Hf7.out).cells; clear ho7 hf7)
                  | (go_at_call 15; refine HA1.out.mono ?_; rintro e' w6 ⟨v6, rfl, ho6, hf6⟩; have Ho6 := Lib.hid ho6; have Hf6 : Hid (Fr w.heap.size w5 w6) := Fr.of_drew hf6; obtain ⟨dd0, dd1, dd2, ddx⟩ := (HC5.out.fr Hf6.out).cells; clear ho6 hf6)))
              go_wp2
              go_roundw
              case rel => exact ⟨k + 1, ⟨L ++ List.replicate b 10 ++ List.replicate j 32, false, j⟩, by omega, by go_num, (by show _ = _; rw [HXn.out]), rfl, rfl, Ho7.out, HF5.out.trans Hf7.out⟩
              case measure => simp [intOf]; omega
        · obtain rfl : K = 2 := by omega
          clear hK hK0 hK1
          have hLn : Hid (Lns ss) := lns_of Hok.out Hful.out
          go_wp2_with fail
          go_at_call 14
          refine (para_any w.heap.size u9 st.out A' c' ss st.margin hm1 (by have := Hlen.out; omega) hLn.out _ (by simp; omega) (Ho.out.alloc _) ((Hr.out.below Hf.out.1).alloc hsw _)).mono ?_
          rintro e' w2 ⟨v2, rfl, ho2, hf2⟩
          have Ho2 := Lib.hid ho2
          have Hf2 := Lib.hid ((Hf.out.alloc hsw (.cells #[.int .i64 2, .int .i64 b, .int .i64 j, .slice A' ss.length c'] 30)).trans hf2)
          have Hc2 := Lib.hid (HCp.out.fr hf2)
          clear ho2 hf2
          obtain ⟨d0, d1, d2, d3⟩ := Hc2.out.cells
          have hs2 := Hf2.out.1.size
          obtain ⟨L, hL⟩ : ∃ L : List UInt8, L = st.out ++ para ss st.margin ss.length := ⟨_, rfl⟩
          rw [← hL] at Ho2
          by_cases hsk : fin = true ∧ k + 1 = E.length
          · obtain ⟨rfl, hke⟩ := hsk
            have z2 : ¬ (k : Int) < (E.length : Int) - 1 := by omega
            have HX : Hid (run E true c0 (k + 1) = ⟨L, false, j⟩) := by show _ = _; rw [← Hst.out, hL]; simp [stepOf, tailOf, hke]
            clear hL d0 d3
            go_wp2
            go_roundw
            case rel => exact ⟨k + 1, ⟨L, false, j⟩, by omega, by go_num, (by show _ = _; rw [HX.out]), rfl, rfl, Ho2.out, Hf2.out⟩
            case measure => simp [intOf]; omega
          · have HX : Hid (run E fin c0 (k + 1) = ⟨L ++ List.replicate b 10 ++ List.replicate j 32, false, j⟩) := by
              show _ = _
              rw [← Hst.out, hL]
              have : (fin && decide (k + 1 = E.length)) = false := by cases fin <;> simp_all
              simp [stepOf, tailOf, this]
            have HLl : Hid (L.length ≤ 4000000) := by
              have := HSt2.out (by omega)
              rw [HX.out] at this
              simp at this
              show _ ≤ _
              omega
            have hd : fin = false ∨ fin = true ∧ (k : Int) < (E.length : Int) - 1 := by
              cases fin
              · exact .inl rfl
              · exact .inr ⟨rfl, by have : ¬ k + 1 = E.length := fun h => hsk ⟨rfl, h⟩; omega⟩
            have HA1 : Hid (Calls Tryd.prog 15 #[v2, .int .u8 10, .int .i64 b] w2.drew (GaveB w2.drew w.heap.size (L ++ List.replicate b 10))) :=
              again_any w.heap.size v2 L 10 b HB.out.1 (by have := HLl.out; omega) w2.drew (by show _ ≤ w2.heap.size; omega) Ho2.out
            have HA2 : Hid (∀ v W, w.heap.size ≤ W.heap.size → Byt W w.heap.size v (L ++ List.replicate b 10) → Calls Tryd.prog 15 #[v, .int .u8 32, .int .i64 j] W (GaveB W w.heap.size (L ++ List.replicate b 10 ++ List.replicate j 32))) := fun v W hW hb =>
              again_any w.heap.size v (L ++ List.replicate b 10) 32 j HB.out.2 (by have := HLl.out; have := HB.out.1; rw [List.length_append, List.length_replicate]; omega) W hW hb
            rcases hd with rfl | ⟨rfl, z2⟩
            all_goals
              clear hL d0 d3
              go_wp2
              go_region_held3 (fun w' => w'.cell? ⟨wr.heap.size, 1, none⟩ = some (.int .i64 b) ∧ w'.cell? ⟨wr.heap.size, 2, none⟩ = some (.int .i64 j))
                (first | go_keep | exact ⟨dd1, dd2⟩ | exact ⟨dd3, dd4⟩)
                ((first
                  | (go_at_call 15; refine (HA2.out v3 w3 (by have := Hf3.out.1.size; omega) Ho3.out).mono ?_; rintro e' w4 ⟨v4, rfl, ho4, hf4⟩; have Ho4 := Lib.hid ho4; have Hf4 := Lib.hid (Hf3.out.trans hf4); obtain ⟨dd5, dd3, dd4, ddy⟩ := (Hc2.out.fr Hf4.out).cells; clear ho4 hf4)
                  | (go_at_call 15; refine HA1.out.mono ?_; rintro e' w3 ⟨v3, rfl, ho3, hf3⟩; have Ho3 := Lib.hid ho3; have Hf3 : Hid (Fr w.heap.size w2 w3) := Fr.of_drew hf3; obtain ⟨dd0, dd1, dd2, ddx⟩ := (Hc2.out.fr Hf3.out).cells; clear ho3 hf3)))
              go_wp2
              go_roundw
              case rel => exact ⟨k + 1, ⟨L ++ List.replicate b 10 ++ List.replicate j 32, false, j⟩, by omega, by go_num, (by show _ = _; rw [HX.out]), rfl, rfl, Ho4.out, Hf2.out.trans Hf4.out⟩
              case measure => simp [intOf]; omega
    · obtain rfl : E.length = k := by omega
      have HT : Hid (textOf E c0 sep fin = st.out ++ (if (sep && st.crowded) = true then [32] else [])) := by show _ = _; unfold textOf; rw [← hst.out]
      obtain ⟨cr, hcr⟩ : ∃ cr, st.crowded = cr := ⟨_, rfl⟩
      rw [hcr] at HT ⊢
      have hcv := byt_text ho
      clear ho hf hst hcr
      by_cases hsc : sep = true ∧ cr = true
      · obtain ⟨rfl, rfl⟩ := hsc
        clear hcv
        go_wp2_with (at_builtin; refine wpList_append_lies _ rfl (.tmp 81) (.tmp 82) _ rfl w.heap.size 5 i5 _ 1 1 Tryd.underlying38 hi5 hz5 hz5' hz5'' rfl (by omega) u9 st.out.length (Lib.byteCells st.out) rfl (Ho.out.alloc _) ⟨wr.heap.size, 0, none⟩ 1 1 [.int .u8 32] rfl rfl (news_at _ _ _ _ (by simp)) (by simp [Value.oneCell']) (by omega) (by have := Hlen.out; simp only [maxLen]; omega) (by have := Hlen.out; omega) (by simp; omega) (wr.heap.size + 1) (by simp) ?_; intro g2 cap2 w4 hown4 hg4 hat4 hlt4; have hcv := byt_text (v := .slice (some ⟨g2, 0, none⟩) (st.out.length + 1) cap2) (byt_append [32] hown4 rfl rfl))
        have hF := Lib.hid ((Hf.out.alloc hsw (.cells #[.int .u8 32] 5)).grown (Byt.below Ho.out ((Below.refl _ _).alloc (Nat.le_refl _) _)) (by simp; omega) hg4)
        clear hown4 hg4 hat4 hlt4
        go_wp2
        go_ret
        exact ⟨by rw [HT.out]; rfl, hF.out.1⟩
      · have hd : sep = false ∨ sep = true ∧ cr = false := by cases sep <;> cases cr <;> simp_all
        clear hsc
        rcases hd with rfl | ⟨rfl, rfl⟩
        · go_wp2
          go_ret
          exact ⟨by rw [HT.out]; simp, Hf.out.1⟩
        · go_wp2
          go_ret
          exact ⟨by rw [HT.out]; simp, Hf.out.1⟩
end Go.Proofs.YtdjnknkdnacbnaaDoor
