/-
  The unparser's fodderFill. Conditions: none.
-/
import Derived.Test.YtdjnknkdnacbnaaDoorTxtG
namespace Go.Proofs.YtdjnknkdnacbnaaDoor
open Go.RowKit
set_option linter.unusedVariables false
set_option linter.unusedSimpArgs false

/-- The copy of an element. -/
def Cpa (w : World) (q : Nat) (K B I : Int) (u : Value) : Prop := w.heap[q]? = some (.cells #[u, .int .i64 K, .int .i64 B, .int .i64 I] 45 (0, 0))
theorem Cpa.new (w : World) (K B I : Int) (u : Value) : Cpa (w.alloc (.cells #[u, .int .i64 K, .int .i64 B, .int .i64 I] 45)) w.heap.size K B I u := heap_alloc_new w _
/-- What writes to the buffer leaves. -/
def Fb (base b : Nat) (w w' : World) : Prop := Below base w w' ∧ Lib.OthersKept 5 (some b) w w'
theorem Fb.refl (base b : Nat) (w : World) : Fb base b w w := ⟨Below.refl _ _, Lib.OthersKept.refl _ _ _⟩
theorem Fb.trans {base b : Nat} {a c d : World} (h : Fb base b a c) (k : Fb base b c d) : Fb base b a d := ⟨h.1.trans k.1, h.2.trans k.2⟩
theorem Fb.alloc {base b : Nat} {a w : World} (h : Fb base b a w) (hb : base ≤ w.heap.size) (o : Obj) : Fb base b a (w.alloc o) := ⟨h.1.alloc hb o, h.2.alloc o⟩
theorem Cpa.fb {base b q : Nat} {w w' : World} {K B I : Int} {u : Value} (h : Cpa w q K B I u) (hf : Fb base b w w') (hq : b < q) : Cpa w' q K B I u :=
  hf.2 q _ h (by simp; omega) (by intro c fz hh; injection hh with _ h2; exact absurd h2 (by decide))
theorem Cpa.cells {q : Nat} {w : World} {K B I : Int} {u : Value} (h : Cpa w q K B I u) : w.cell? ⟨q, 0, none⟩ = some u ∧ w.cell? ⟨q, 1, none⟩ = some (.int .i64 K) ∧ w.cell? ⟨q, 2, none⟩ = some (.int .i64 B) ∧ w.cell? ⟨q, 3, none⟩ = some (.int .i64 I) :=
  ⟨by rw [Lib.cell_of_heap h]; rfl, by rw [Lib.cell_of_heap h]; rfl, by rw [Lib.cell_of_heap h]; rfl, by rw [Lib.cell_of_heap h]; rfl⟩
def Wrt (w : World) (base b : Nat) (l : List UInt8) (e : Ending) (w' : World) : Prop := e = .returned (.tuple #[]) ∧ Buf w' base b l ∧ Fb base b w w'
theorem wr_any {base b : Nat} {l : List UInt8} (s : ByteArray) (L : List UInt8) (hL : L = l ++ s.data.toList) {w : World} (h : Buf w base b l) (hBw : base ≤ w.heap.size) (hlim : L.length ≤ 100000000) :
    Calls Tryd.prog 21 #[.pointer (some ⟨b, 0, none⟩), .string s] w (Wrt w base b L) := by
  subst hL
  refine (write_any base b l s w h hBw (by have : s.data.toList.length = s.size := Lib.size_eq s ▸ rfl; rw [List.length_append] at hlim; omega)).mono ?_
  rintro e w' ⟨h1, h2, h3, h4⟩
  exact ⟨h1, h2, h3, h4⟩
theorem rep_snoc (l : List UInt8) (m : Nat) (c : UInt8) : l ++ List.replicate (m + 1) c = l ++ List.replicate m c ++ [c] := by rw [List.replicate_succ', List.append_assoc]
def Wrote2 (w0 w : World) (b : Nat) (l : List UInt8) (e : Ending) (w' : World) : Prop := e = .returned (.tuple #[]) ∧ Buf w' w0.heap.size b l ∧ Below w0.heap.size w0 w'

set_option maxRecDepth 100000 in
set_option maxHeartbeats 16000000 in
theorem fill_any (w0 : World) (A : Option Addr) (c : Nat) (E : List El) (c0 sep fin : Bool) (b : Nat) (w : World) (h : Els cellsA w0 A E) (hE : OkF E) (hF : FullE E) (hb0 : Below w0.heap.size w0 w) (hB : Buf w w0.heap.size b []) :
    Calls Tryd.prog 19 #[.pointer (some ⟨b, 0, none⟩), .slice A E.length c, .bool c0, .bool sep, .bool fin] w (Wrote2 w0 w b (textOf E c0 sep fin)) := by
  have hE1 := hE.1
  have HE := Lib.hid hE
  have HF := Lib.hid hF
  have HR := Lib.hid h
  have HL : Hid (∀ k, k ≤ E.length → (run E fin c0 k).out.length ≤ 3000000 ∧ (run E fin c0 k).margin ≤ 1000) := fun k hk => by
    have := run_le (fin := fin) (c := c0) hE hF k hk
    omega
  have HB0 := Lib.hid hB
  have Hb0 := Lib.hid hb0
  have hbl := HB0.out.lt
  clear h hE hF hb0 hB
  go_enter Tryd.func19, Tryd.ntmps19
  go_wp2
  go_loopw [2, 10, 23] (fun cr mg i wr => ∃ (k : Nat) (st : St), k ≤ E.length ∧ i = .int .i64 k ∧ Hid (st = run E fin c0 k) ∧ cr = .bool st.crowded ∧ mg = .int .i64 st.margin ∧ Buf wr w0.heap.size b st.out ∧ Below w0.heap.size w0 wr) (fun _ _ i _ => E.length - (intOf i).toNat)
  case atStart => exact ⟨0, ⟨[], c0, 0⟩, by omega, rfl, rfl, rfl, rfl, HB0.out, Hb0.out⟩
  case round =>
    obtain ⟨k, ⟨so, cr, sm⟩, hk, rfl, hst, rfl, rfl, ho, hf⟩ := hrel
    simp only at ho ⊢
    obtain ⟨wo, rfl⟩ : ∃ wo : World, wo = wr := ⟨_, rfl⟩
    have Hlen : Hid (so.length ≤ 3000000 ∧ sm ≤ 1000) := by have := HL.out k hk; rw [← hst.out] at this; exact this
    have Ho := Lib.hid ho
    have Hf := Lib.hid hf
    have hsw := hf.size
    have hbo := ho.lt
    obtain ⟨hbo1, hbo2⟩ := hbo
    by_cases hlt : k < E.length
    · obtain ⟨e, he⟩ : ∃ e, E[k]? = some e := ⟨_, List.getElem?_eq_getElem hlt⟩
      have Hst : Hid (stepOf fin E.length k e ⟨so, cr, sm⟩ = run E fin c0 (k + 1)) := by show _ = _; rw [run_step he, hst.out]
      obtain ⟨ad, u, rfl, hb, hu, hc⟩ := HR.out k e he
      obtain ⟨g0, g1, g2, g3⟩ := four_of hc
      have h0 := cell_below g0 hf
      have h1 := cell_below g1 hf
      have h2 := cell_below g2 hf
      have h3 := cell_below g3 hf
      have hok := HE.out.2 k e he
      have Hful : Hid (∀ s ∈ e.text, 0 < s.size) := fun s hs => HF.out k e s he hs
      obtain ⟨K, B, I, ss⟩ := e
      have hK := ok_k hok
      simp only at h0 h1 h2 h3 hu
      obtain ⟨A', c', rfl, hlc, hr⟩ := hu
      have Hr := Lib.hid hr
      have z0 : (0 : Int) ≤ (k : Int) := by omega
      have z1 : (k : Int) < (E.length : Int) := by omega
      have Hok := Lib.hid hok
      have HCp := Lib.hid (Cpa.new wo K B I (.slice A' ss.length c'))
      have hqb : b < wo.heap.size := hbo2
      have HBn : Hid (Buf (wo.alloc (.cells #[.slice A' ss.length c', .int .i64 K, .int .i64 B, .int .i64 I] 45)) w0.heap.size b so) := Ho.out.alloc _
      have HFn : Hid (Below w0.heap.size w0 (wo.alloc (.cells #[.slice A' ss.length c', .int .i64 K, .int .i64 B, .int .i64 I] 45))) := Hf.out.alloc hsw _
      have hwr1 : IntKind.i64.wrap ((E.length : Int) - 1) = (E.length : Int) - 1 := by rw [IntKind.wrap_i64]; omega
      have hd : (fin = true ∧ k + 1 = E.length) ∨ fin = false ∨ fin = true ∧ ¬ k + 1 = E.length := by
        cases fin
        · exact .inr (.inl rfl)
        · by_cases h : k + 1 = E.length
          · exact .inl ⟨rfl, h⟩
          · exact .inr (.inr ⟨rfl, h⟩)
      obtain ⟨bb, rfl⟩ : ∃ bb : Nat, B = (bb : Int) := ⟨B.toNat, by have := Hok.out.1; simp only at this; omega⟩
      obtain ⟨j, rfl⟩ : ∃ j : Nat, I = (j : Int) := ⟨I.toNat, by have := Hok.out.2.2.1; simp only at this; omega⟩
      have HBj : Hid (bb ≤ 1000 ∧ j ≤ 1000) := by have h1 := Hok.out.2.1; have h2 := Hok.out.2.2.2.1; simp only at h1 h2; constructor <;> omega
      have Hszn : Hid (w0.heap.size ≤ (wo.alloc (.cells #[.slice A' ss.length c', .int .i64 K, .int .i64 bb, .int .i64 j] 45)).heap.size) := HFn.out.size
      clear he hc hr hok ho hf g0 g1 g2 g3 hst hbo2
      by_cases hK2 : K = 2
      · subst hK2
        clear hK
        have hLn : Hid (Lns ss) := lns_of Hok.out Hful.out
        have HPl : Hid (∀ n, n ≤ ss.length → (para ss sm n).length ≤ 24020) := fun n hn => by have := para_le hLn.out Hlen.out.2 n hn; have := hLn.out.1; omega
        have hss20 : ss.length ≤ 20 := hLn.out.1
        rcases hd with ⟨rfl, hke⟩ | rfl | ⟨rfl, hke⟩
        · have z2 : ((k : Int) == (E.length : Int) - 1) = true := by simp; omega
          obtain ⟨LP, hLP⟩ : ∃ LP : List UInt8, LP = so ++ para ss sm ss.length := ⟨_, rfl⟩
          have HX : Hid (run E true c0 (k + 1) = ⟨LP, false, j⟩) := by show _ = _; rw [← Hst.out, hLP]; simp [stepOf, tailOf, first, hke]
          have HLPe := Lib.hid hLP
          have HLP : Hid (LP.length ≤ 3024020) := by show _ ≤ _; have := HPl.out ss.length (Nat.le_refl _); have := Hlen.out; rw [hLP, List.length_append]; omega
          clear hLP hke
          go_wp2
          go_loopw [43] (fun i wr => ∃ n : Nat, n ≤ ss.length ∧ i = .int .i64 n ∧ Buf wr w0.heap.size b (so ++ para ss sm n) ∧ Fb w0.heap.size b (wo.alloc (.cells #[.slice A' ss.length c', .int .i64 2, .int .i64 bb, .int .i64 j] 45)) wr) (fun i _ => ss.length - (intOf i).toNat)
          case atStart => exact ⟨0, by omega, rfl, by simpa [para] using HBn.out, Fb.refl _ _ _⟩
          case round =>
            obtain ⟨n, hn, rfl, ho2, hf2⟩ := hrel
            obtain ⟨w2, rfl⟩ : ∃ w2 : World, w2 = wr := ⟨_, rfl⟩
            have HO2 := Lib.hid ho2
            have HF2 := Lib.hid hf2
            have Hsz2 : Hid (w0.heap.size ≤ w2.heap.size) := by show _ ≤ _; have := hf2.1.size; have := Hszn.out; omega
            have HB2 := Lib.hid (HFn.out.trans hf2.1)
            clear ho2 hf2
            by_cases hlt2 : n < ss.length
            · obtain ⟨ad', s, rfl, hb', hs', hcl⟩ := Hr.out.line hlt2
              have hcl2 : w2.cell? (ad'.add n) = some (.string s) := (HB2.out.cell (p := ad'.add n) (by rw [block_of_add]; exact hb')).trans hcl
              have hsz := hLn.out.2 n s hs'
              have Hsl : Hid (s.size ≤ 200 ∧ s.data.toList.length = s.size) := ⟨hsz.1, Lib.size_eq s ▸ rfl⟩
              have z5 : 0 < s.size := hsz.2
              have z3 : (0 : Int) ≤ (n : Int) := by omega
              have z4 : (n : Int) < (ss.length : Int) := by omega
              have HPS := Lib.hid (para_step (m := sm) hs')
              have HPn := Lib.hid (HPl.out n (by omega))
              clear hs' hcl hsz
              by_cases hn0 : 0 < n
              · have hn1 : (0 : Int) < (n : Int) := by omega
                go_wp2
                have hcnt3 : sm ≤ 1000 := Hlen.out.2
                go_loopw [16] (fun i wr => ∃ m : Nat, m ≤ sm ∧ i = .int .i64 m ∧ Buf wr w0.heap.size b (so ++ para ss sm n ++ List.replicate m 32) ∧ Fb w0.heap.size b w2 wr) (fun i _ => sm - (intOf i).toNat)
                case atStart => exact ⟨0, by omega, rfl, by simpa using HO2.out, Fb.refl _ _ _⟩
                case round =>
                  obtain ⟨m, hm, rfl, ho3, hf3⟩ := hrel
                  obtain ⟨w3, rfl⟩ : ∃ w3 : World, w3 = wr := ⟨_, rfl⟩
                  have HO3 := Lib.hid ho3
                  have HF3 := Lib.hid hf3
                  have Hsz3 : Hid (w0.heap.size ≤ w3.heap.size) := by show _ ≤ _; have := hf3.1.size; have := Hsz2.out; omega
                  clear ho3 hf3
                  by_cases hlt3 : m < sm
                  · go_wp2_with fail
                    go_at_call 21
                    refine (wr_any ⟨#[32]⟩ (so ++ para ss sm n ++ List.replicate (m + 1) 32) (rep_snoc _ _ _) HO3.out Hsz3.out (by have := HPn.out; have := Hlen.out; simp only [List.length_append, List.length_replicate]; omega)).mono ?_
                    rintro e' w3n ⟨rfl, ho3n, hf3n⟩
                    have HO3n := Lib.hid ho3n
                    have HF3n := Lib.hid hf3n
                    have Hsz3n : Hid (w0.heap.size ≤ w3n.heap.size) := by show _ ≤ _; have := hf3n.1.size; have := Hsz3.out; omega
                    clear ho3n hf3n
                    go_wp2
                    go_roundw
                    case rel => first | exact ⟨m + 1, by omega, by go_num, HO3n.out, HF3.out.trans HF3n.out⟩ | ((repeat apply Exists.intro); exact ⟨⟨m + 1, by omega, by go_num, HO3n.out, HF3.out.trans HF3n.out⟩, rfl⟩)
                    case measure => simp [intOf]; omega
                  · obtain rfl : sm = m := by omega
                    go_wp2_with fail
                    go_at_call 21
                    refine (wr_any s (so ++ para ss sm n ++ List.replicate sm 32 ++ s.data.toList) (rfl) HO3.out Hsz3.out (by have := HPn.out; have := Hlen.out; have := Hsl.out; simp only [List.length_append, List.length_replicate]; omega)).mono ?_
                    rintro e' wa ⟨rfl, hoa, hfa⟩
                    have HOa := Lib.hid hoa
                    have HFa := Lib.hid hfa
                    have Hsza : Hid (w0.heap.size ≤ wa.heap.size) := by show _ ≤ _; have := hfa.1.size; have := Hsz3.out; omega
                    clear hoa hfa
                    go_wp2_with fail
                    go_at_call 21
                    refine (wr_any ⟨#[10]⟩ (so ++ para ss sm n ++ List.replicate sm 32 ++ s.data.toList ++ [10]) (rfl) HOa.out Hsza.out (by have := HPn.out; have := Hlen.out; have := Hsl.out; simp only [List.length_append, List.length_replicate, List.length_singleton]; omega)).mono ?_
                    rintro e' wz ⟨rfl, hoz, hfz⟩
                    have HOz := Lib.hid hoz
                    have HFz := Lib.hid hfz
                    have Hszz : Hid (w0.heap.size ≤ wz.heap.size) := by show _ ≤ _; have := hfz.1.size; have := Hsza.out; omega
                    clear hoz hfz
                    have HE2 : Hid (so ++ para ss sm n ++ List.replicate sm 32 ++ s.data.toList ++ [10] = so ++ para ss sm (n + 1)) := by show _ = _; rw [HPS.out]; simp [lineOf, hn0]
                    go_wp2
                    go_roundw
                    case rel => exact ⟨n + 1, by omega, by go_num, (by rw [← HE2.out]; exact HOz.out), HF2.out.trans (HF3.out.trans (HFa.out.trans HFz.out))⟩
                    case measure => simp [intOf]; omega
              · have hn1 : ¬ (0 : Int) < (n : Int) := by omega
                go_wp2_with fail
                go_at_call 21
                refine (wr_any s (so ++ para ss sm n ++ s.data.toList) (rfl) HO2.out Hsz2.out (by have := HPn.out; have := Hlen.out; have := Hsl.out; simp only [List.length_append, List.length_replicate]; omega)).mono ?_
                rintro e' wa ⟨rfl, hoa, hfa⟩
                have HOa := Lib.hid hoa
                have HFa := Lib.hid hfa
                have Hsza : Hid (w0.heap.size ≤ wa.heap.size) := by show _ ≤ _; have := hfa.1.size; have := Hsz2.out; omega
                clear hoa hfa
                go_wp2_with fail
                go_at_call 21
                refine (wr_any ⟨#[10]⟩ (so ++ para ss sm n ++ s.data.toList ++ [10]) (rfl) HOa.out Hsza.out (by have := HPn.out; have := Hlen.out; have := Hsl.out; simp only [List.length_append, List.length_replicate, List.length_singleton]; omega)).mono ?_
                rintro e' wz ⟨rfl, hoz, hfz⟩
                have HOz := Lib.hid hoz
                have HFz := Lib.hid hfz
                have Hszz : Hid (w0.heap.size ≤ wz.heap.size) := by show _ ≤ _; have := hfz.1.size; have := Hsza.out; omega
                clear hoz hfz
                have HE2 : Hid (so ++ para ss sm n ++ s.data.toList ++ [10] = so ++ para ss sm (n + 1)) := by show _ = _; rw [HPS.out]; simp [lineOf, hn0]
                go_wp2
                go_roundw
                case rel => exact ⟨n + 1, by omega, by go_num, (by rw [← HE2.out]; exact HOz.out), HF2.out.trans (HFa.out.trans HFz.out)⟩
                case measure => simp [intOf]; omega
            · obtain rfl : ss.length = n := by omega
              rw [← HLPe.out] at HO2
              obtain ⟨-, -, dd2, dd3⟩ := (HCp.out.fb HF2.out hqb).cells
              go_wp2
              go_roundw
              case rel => exact ⟨k + 1, ⟨LP, false, j⟩, by omega, by go_num, (by show _ = _; rw [HX.out]), rfl, rfl, HO2.out, HFn.out.trans (HF2.out).1⟩
              case measure => simp [intOf]; omega
        · obtain ⟨LP, hLP⟩ : ∃ LP : List UInt8, LP = so ++ para ss sm ss.length := ⟨_, rfl⟩
          have HX : Hid (run E false c0 (k + 1) = ⟨LP ++ List.replicate bb 10 ++ List.replicate j 32, false, j⟩) := by show _ = _; rw [← Hst.out, hLP]; simp [stepOf, tailOf, first]
          have HLPe := Lib.hid hLP
          have HLP : Hid (LP.length ≤ 3024020) := by show _ ≤ _; have := HPl.out ss.length (Nat.le_refl _); have := Hlen.out; rw [hLP, List.length_append]; omega
          clear hLP
          go_wp2
          go_loopw [43] (fun i wr => ∃ n : Nat, n ≤ ss.length ∧ i = .int .i64 n ∧ Buf wr w0.heap.size b (so ++ para ss sm n) ∧ Fb w0.heap.size b (wo.alloc (.cells #[.slice A' ss.length c', .int .i64 2, .int .i64 bb, .int .i64 j] 45)) wr) (fun i _ => ss.length - (intOf i).toNat)
          case atStart => exact ⟨0, by omega, rfl, by simpa [para] using HBn.out, Fb.refl _ _ _⟩
          case round =>
            obtain ⟨n, hn, rfl, ho2, hf2⟩ := hrel
            obtain ⟨w2, rfl⟩ : ∃ w2 : World, w2 = wr := ⟨_, rfl⟩
            have HO2 := Lib.hid ho2
            have HF2 := Lib.hid hf2
            have Hsz2 : Hid (w0.heap.size ≤ w2.heap.size) := by show _ ≤ _; have := hf2.1.size; have := Hszn.out; omega
            have HB2 := Lib.hid (HFn.out.trans hf2.1)
            clear ho2 hf2
            by_cases hlt2 : n < ss.length
            · obtain ⟨ad', s, rfl, hb', hs', hcl⟩ := Hr.out.line hlt2
              have hcl2 : w2.cell? (ad'.add n) = some (.string s) := (HB2.out.cell (p := ad'.add n) (by rw [block_of_add]; exact hb')).trans hcl
              have hsz := hLn.out.2 n s hs'
              have Hsl : Hid (s.size ≤ 200 ∧ s.data.toList.length = s.size) := ⟨hsz.1, Lib.size_eq s ▸ rfl⟩
              have z5 : 0 < s.size := hsz.2
              have z3 : (0 : Int) ≤ (n : Int) := by omega
              have z4 : (n : Int) < (ss.length : Int) := by omega
              have HPS := Lib.hid (para_step (m := sm) hs')
              have HPn := Lib.hid (HPl.out n (by omega))
              clear hs' hcl hsz
              by_cases hn0 : 0 < n
              · have hn1 : (0 : Int) < (n : Int) := by omega
                go_wp2
                have hcnt3 : sm ≤ 1000 := Hlen.out.2
                go_loopw [16] (fun i wr => ∃ m : Nat, m ≤ sm ∧ i = .int .i64 m ∧ Buf wr w0.heap.size b (so ++ para ss sm n ++ List.replicate m 32) ∧ Fb w0.heap.size b w2 wr) (fun i _ => sm - (intOf i).toNat)
                case atStart => exact ⟨0, by omega, rfl, by simpa using HO2.out, Fb.refl _ _ _⟩
                case round =>
                  obtain ⟨m, hm, rfl, ho3, hf3⟩ := hrel
                  obtain ⟨w3, rfl⟩ : ∃ w3 : World, w3 = wr := ⟨_, rfl⟩
                  have HO3 := Lib.hid ho3
                  have HF3 := Lib.hid hf3
                  have Hsz3 : Hid (w0.heap.size ≤ w3.heap.size) := by show _ ≤ _; have := hf3.1.size; have := Hsz2.out; omega
                  clear ho3 hf3
                  by_cases hlt3 : m < sm
                  · go_wp2_with fail
                    go_at_call 21
                    refine (wr_any ⟨#[32]⟩ (so ++ para ss sm n ++ List.replicate (m + 1) 32) (rep_snoc _ _ _) HO3.out Hsz3.out (by have := HPn.out; have := Hlen.out; simp only [List.length_append, List.length_replicate]; omega)).mono ?_
                    rintro e' w3n ⟨rfl, ho3n, hf3n⟩
                    have HO3n := Lib.hid ho3n
                    have HF3n := Lib.hid hf3n
                    have Hsz3n : Hid (w0.heap.size ≤ w3n.heap.size) := by show _ ≤ _; have := hf3n.1.size; have := Hsz3.out; omega
                    clear ho3n hf3n
                    go_wp2
                    go_roundw
                    case rel => first | exact ⟨m + 1, by omega, by go_num, HO3n.out, HF3.out.trans HF3n.out⟩ | ((repeat apply Exists.intro); exact ⟨⟨m + 1, by omega, by go_num, HO3n.out, HF3.out.trans HF3n.out⟩, rfl⟩)
                    case measure => simp [intOf]; omega
                  · obtain rfl : sm = m := by omega
                    go_wp2_with fail
                    go_at_call 21
                    refine (wr_any s (so ++ para ss sm n ++ List.replicate sm 32 ++ s.data.toList) (rfl) HO3.out Hsz3.out (by have := HPn.out; have := Hlen.out; have := Hsl.out; simp only [List.length_append, List.length_replicate]; omega)).mono ?_
                    rintro e' wa ⟨rfl, hoa, hfa⟩
                    have HOa := Lib.hid hoa
                    have HFa := Lib.hid hfa
                    have Hsza : Hid (w0.heap.size ≤ wa.heap.size) := by show _ ≤ _; have := hfa.1.size; have := Hsz3.out; omega
                    clear hoa hfa
                    go_wp2_with fail
                    go_at_call 21
                    refine (wr_any ⟨#[10]⟩ (so ++ para ss sm n ++ List.replicate sm 32 ++ s.data.toList ++ [10]) (rfl) HOa.out Hsza.out (by have := HPn.out; have := Hlen.out; have := Hsl.out; simp only [List.length_append, List.length_replicate, List.length_singleton]; omega)).mono ?_
                    rintro e' wz ⟨rfl, hoz, hfz⟩
                    have HOz := Lib.hid hoz
                    have HFz := Lib.hid hfz
                    have Hszz : Hid (w0.heap.size ≤ wz.heap.size) := by show _ ≤ _; have := hfz.1.size; have := Hsza.out; omega
                    clear hoz hfz
                    have HE2 : Hid (so ++ para ss sm n ++ List.replicate sm 32 ++ s.data.toList ++ [10] = so ++ para ss sm (n + 1)) := by show _ = _; rw [HPS.out]; simp [lineOf, hn0]
                    go_wp2
                    go_roundw
                    case rel => exact ⟨n + 1, by omega, by go_num, (by rw [← HE2.out]; exact HOz.out), HF2.out.trans (HF3.out.trans (HFa.out.trans HFz.out))⟩
                    case measure => simp [intOf]; omega
              · have hn1 : ¬ (0 : Int) < (n : Int) := by omega
                go_wp2_with fail
                go_at_call 21
                refine (wr_any s (so ++ para ss sm n ++ s.data.toList) (rfl) HO2.out Hsz2.out (by have := HPn.out; have := Hlen.out; have := Hsl.out; simp only [List.length_append, List.length_replicate]; omega)).mono ?_
                rintro e' wa ⟨rfl, hoa, hfa⟩
                have HOa := Lib.hid hoa
                have HFa := Lib.hid hfa
                have Hsza : Hid (w0.heap.size ≤ wa.heap.size) := by show _ ≤ _; have := hfa.1.size; have := Hsz2.out; omega
                clear hoa hfa
                go_wp2_with fail
                go_at_call 21
                refine (wr_any ⟨#[10]⟩ (so ++ para ss sm n ++ s.data.toList ++ [10]) (rfl) HOa.out Hsza.out (by have := HPn.out; have := Hlen.out; have := Hsl.out; simp only [List.length_append, List.length_replicate, List.length_singleton]; omega)).mono ?_
                rintro e' wz ⟨rfl, hoz, hfz⟩
                have HOz := Lib.hid hoz
                have HFz := Lib.hid hfz
                have Hszz : Hid (w0.heap.size ≤ wz.heap.size) := by show _ ≤ _; have := hfz.1.size; have := Hsza.out; omega
                clear hoz hfz
                have HE2 : Hid (so ++ para ss sm n ++ s.data.toList ++ [10] = so ++ para ss sm (n + 1)) := by show _ = _; rw [HPS.out]; simp [lineOf, hn0]
                go_wp2
                go_roundw
                case rel => exact ⟨n + 1, by omega, by go_num, (by rw [← HE2.out]; exact HOz.out), HF2.out.trans (HFa.out.trans HFz.out)⟩
                case measure => simp [intOf]; omega
            · obtain rfl : ss.length = n := by omega
              rw [← HLPe.out] at HO2
              go_wp2
              have hcnt2p : bb ≤ 1000 := HBj.out.1
              go_loopw [17] (fun i wr => ∃ m : Nat, m ≤ bb ∧ i = .int .i64 m ∧ Buf wr w0.heap.size b (LP ++ List.replicate m 10) ∧ Fb w0.heap.size b w2 wr) (fun i _ => bb - (intOf i).toNat)
              case atStart => exact ⟨0, by omega, rfl, by simpa using HO2.out, Fb.refl _ _ _⟩
              case round =>
                obtain ⟨m, hm, rfl, ho2p, hf2p⟩ := hrel
                obtain ⟨w2p, rfl⟩ : ∃ w2p : World, w2p = wr := ⟨_, rfl⟩
                have HO2p := Lib.hid ho2p
                have HF2p := Lib.hid hf2p
                have Hsz2p : Hid (w0.heap.size ≤ w2p.heap.size) := by show _ ≤ _; have := hf2p.1.size; have := Hsz2.out; omega
                clear ho2p hf2p
                obtain ⟨-, -, dd22p, dd32p⟩ := (HCp.out.fb ((HF2.out.trans HF2p.out)) hqb).cells
                by_cases hlt2p : m < bb
                · go_wp2_with fail
                  go_at_call 21
                  refine (wr_any ⟨#[10]⟩ (LP ++ List.replicate (m + 1) 10) (rep_snoc _ _ _) HO2p.out Hsz2p.out (by have := HLP.out; have := HBj.out; simp only [List.length_append, List.length_replicate]; omega)).mono ?_
                  rintro e' w2pn ⟨rfl, ho2pn, hf2pn⟩
                  have HO2pn := Lib.hid ho2pn
                  have HF2pn := Lib.hid hf2pn
                  have Hsz2pn : Hid (w0.heap.size ≤ w2pn.heap.size) := by show _ ≤ _; have := hf2pn.1.size; have := Hsz2p.out; omega
                  clear ho2pn hf2pn
                  go_wp2
                  go_roundw
                  case rel => first | exact ⟨m + 1, by omega, by go_num, HO2pn.out, HF2p.out.trans HF2pn.out⟩ | ((repeat apply Exists.intro); exact ⟨⟨m + 1, by omega, by go_num, HO2pn.out, HF2p.out.trans HF2pn.out⟩, rfl⟩)
                  case measure => simp [intOf]; omega
                · obtain rfl : bb = m := by omega
                  go_wp2
                  have hcnt2pq : j ≤ 1000 := HBj.out.2
                  go_loopw [18] (fun i wr => ∃ m : Nat, m ≤ j ∧ i = .int .i64 m ∧ Buf wr w0.heap.size b (LP ++ List.replicate bb 10 ++ List.replicate m 32) ∧ Fb w0.heap.size b w2p wr) (fun i _ => j - (intOf i).toNat)
                  case atStart => exact ⟨0, by omega, rfl, by simpa using HO2p.out, Fb.refl _ _ _⟩
                  case round =>
                    obtain ⟨m, hm, rfl, ho2pq, hf2pq⟩ := hrel
                    obtain ⟨w2pq, rfl⟩ : ∃ w2pq : World, w2pq = wr := ⟨_, rfl⟩
                    have HO2pq := Lib.hid ho2pq
                    have HF2pq := Lib.hid hf2pq
                    have Hsz2pq : Hid (w0.heap.size ≤ w2pq.heap.size) := by show _ ≤ _; have := hf2pq.1.size; have := Hsz2p.out; omega
                    clear ho2pq hf2pq
                    obtain ⟨-, -, dd22pq, dd32pq⟩ := (HCp.out.fb (((HF2.out.trans HF2p.out).trans HF2pq.out)) hqb).cells
                    by_cases hlt2pq : m < j
                    · go_wp2_with fail
                      go_at_call 21
                      refine (wr_any ⟨#[32]⟩ (LP ++ List.replicate bb 10 ++ List.replicate (m + 1) 32) (rep_snoc _ _ _) HO2pq.out Hsz2pq.out (by have := HLP.out; have := HBj.out; simp only [List.length_append, List.length_replicate]; omega)).mono ?_
                      rintro e' w2pqn ⟨rfl, ho2pqn, hf2pqn⟩
                      have HO2pqn := Lib.hid ho2pqn
                      have HF2pqn := Lib.hid hf2pqn
                      have Hsz2pqn : Hid (w0.heap.size ≤ w2pqn.heap.size) := by show _ ≤ _; have := hf2pqn.1.size; have := Hsz2pq.out; omega
                      clear ho2pqn hf2pqn
                      go_wp2
                      go_roundw
                      case rel => first | exact ⟨m + 1, by omega, by go_num, HO2pqn.out, HF2pq.out.trans HF2pqn.out⟩ | ((repeat apply Exists.intro); exact ⟨⟨m + 1, by omega, by go_num, HO2pqn.out, HF2pq.out.trans HF2pqn.out⟩, rfl⟩)
                      case measure => simp [intOf]; omega
                    · obtain rfl : j = m := by omega
                      go_wp2
                      go_roundw
                      case rel => exact ⟨k + 1, ⟨LP ++ List.replicate bb 10 ++ List.replicate j 32, false, j⟩, by omega, by go_num, (by show _ = _; rw [HX.out]), rfl, rfl, HO2pq.out, HFn.out.trans ((HF2.out.trans HF2p.out).trans HF2pq.out).1⟩
                      case measure => simp [intOf]; omega
        · have z2 : ((k : Int) == (E.length : Int) - 1) = false := by simp; omega
          obtain ⟨LP, hLP⟩ : ∃ LP : List UInt8, LP = so ++ para ss sm ss.length := ⟨_, rfl⟩
          have HX : Hid (run E true c0 (k + 1) = ⟨LP ++ List.replicate bb 10 ++ List.replicate j 32, false, j⟩) := by show _ = _; rw [← Hst.out, hLP]; simp [stepOf, tailOf, first, hke]
          have HLPe := Lib.hid hLP
          have HLP : Hid (LP.length ≤ 3024020) := by show _ ≤ _; have := HPl.out ss.length (Nat.le_refl _); have := Hlen.out; rw [hLP, List.length_append]; omega
          clear hLP hke
          go_wp2
          go_loopw [43] (fun i wr => ∃ n : Nat, n ≤ ss.length ∧ i = .int .i64 n ∧ Buf wr w0.heap.size b (so ++ para ss sm n) ∧ Fb w0.heap.size b (wo.alloc (.cells #[.slice A' ss.length c', .int .i64 2, .int .i64 bb, .int .i64 j] 45)) wr) (fun i _ => ss.length - (intOf i).toNat)
          case atStart => exact ⟨0, by omega, rfl, by simpa [para] using HBn.out, Fb.refl _ _ _⟩
          case round =>
            obtain ⟨n, hn, rfl, ho2, hf2⟩ := hrel
            obtain ⟨w2, rfl⟩ : ∃ w2 : World, w2 = wr := ⟨_, rfl⟩
            have HO2 := Lib.hid ho2
            have HF2 := Lib.hid hf2
            have Hsz2 : Hid (w0.heap.size ≤ w2.heap.size) := by show _ ≤ _; have := hf2.1.size; have := Hszn.out; omega
            have HB2 := Lib.hid (HFn.out.trans hf2.1)
            clear ho2 hf2
            by_cases hlt2 : n < ss.length
            · obtain ⟨ad', s, rfl, hb', hs', hcl⟩ := Hr.out.line hlt2
              have hcl2 : w2.cell? (ad'.add n) = some (.string s) := (HB2.out.cell (p := ad'.add n) (by rw [block_of_add]; exact hb')).trans hcl
              have hsz := hLn.out.2 n s hs'
              have Hsl : Hid (s.size ≤ 200 ∧ s.data.toList.length = s.size) := ⟨hsz.1, Lib.size_eq s ▸ rfl⟩
              have z5 : 0 < s.size := hsz.2
              have z3 : (0 : Int) ≤ (n : Int) := by omega
              have z4 : (n : Int) < (ss.length : Int) := by omega
              have HPS := Lib.hid (para_step (m := sm) hs')
              have HPn := Lib.hid (HPl.out n (by omega))
              clear hs' hcl hsz
              by_cases hn0 : 0 < n
              · have hn1 : (0 : Int) < (n : Int) := by omega
                go_wp2
                have hcnt3 : sm ≤ 1000 := Hlen.out.2
                go_loopw [16] (fun i wr => ∃ m : Nat, m ≤ sm ∧ i = .int .i64 m ∧ Buf wr w0.heap.size b (so ++ para ss sm n ++ List.replicate m 32) ∧ Fb w0.heap.size b w2 wr) (fun i _ => sm - (intOf i).toNat)
                case atStart => exact ⟨0, by omega, rfl, by simpa using HO2.out, Fb.refl _ _ _⟩
                case round =>
                  obtain ⟨m, hm, rfl, ho3, hf3⟩ := hrel
                  obtain ⟨w3, rfl⟩ : ∃ w3 : World, w3 = wr := ⟨_, rfl⟩
                  have HO3 := Lib.hid ho3
                  have HF3 := Lib.hid hf3
                  have Hsz3 : Hid (w0.heap.size ≤ w3.heap.size) := by show _ ≤ _; have := hf3.1.size; have := Hsz2.out; omega
                  clear ho3 hf3
                  by_cases hlt3 : m < sm
                  · go_wp2_with fail
                    go_at_call 21
                    refine (wr_any ⟨#[32]⟩ (so ++ para ss sm n ++ List.replicate (m + 1) 32) (rep_snoc _ _ _) HO3.out Hsz3.out (by have := HPn.out; have := Hlen.out; simp only [List.length_append, List.length_replicate]; omega)).mono ?_
                    rintro e' w3n ⟨rfl, ho3n, hf3n⟩
                    have HO3n := Lib.hid ho3n
                    have HF3n := Lib.hid hf3n
                    have Hsz3n : Hid (w0.heap.size ≤ w3n.heap.size) := by show _ ≤ _; have := hf3n.1.size; have := Hsz3.out; omega
                    clear ho3n hf3n
                    go_wp2
                    go_roundw
                    case rel => first | exact ⟨m + 1, by omega, by go_num, HO3n.out, HF3.out.trans HF3n.out⟩ | ((repeat apply Exists.intro); exact ⟨⟨m + 1, by omega, by go_num, HO3n.out, HF3.out.trans HF3n.out⟩, rfl⟩)
                    case measure => simp [intOf]; omega
                  · obtain rfl : sm = m := by omega
                    go_wp2_with fail
                    go_at_call 21
                    refine (wr_any s (so ++ para ss sm n ++ List.replicate sm 32 ++ s.data.toList) (rfl) HO3.out Hsz3.out (by have := HPn.out; have := Hlen.out; have := Hsl.out; simp only [List.length_append, List.length_replicate]; omega)).mono ?_
                    rintro e' wa ⟨rfl, hoa, hfa⟩
                    have HOa := Lib.hid hoa
                    have HFa := Lib.hid hfa
                    have Hsza : Hid (w0.heap.size ≤ wa.heap.size) := by show _ ≤ _; have := hfa.1.size; have := Hsz3.out; omega
                    clear hoa hfa
                    go_wp2_with fail
                    go_at_call 21
                    refine (wr_any ⟨#[10]⟩ (so ++ para ss sm n ++ List.replicate sm 32 ++ s.data.toList ++ [10]) (rfl) HOa.out Hsza.out (by have := HPn.out; have := Hlen.out; have := Hsl.out; simp only [List.length_append, List.length_replicate, List.length_singleton]; omega)).mono ?_
                    rintro e' wz ⟨rfl, hoz, hfz⟩
                    have HOz := Lib.hid hoz
                    have HFz := Lib.hid hfz
                    have Hszz : Hid (w0.heap.size ≤ wz.heap.size) := by show _ ≤ _; have := hfz.1.size; have := Hsza.out; omega
                    clear hoz hfz
                    have HE2 : Hid (so ++ para ss sm n ++ List.replicate sm 32 ++ s.data.toList ++ [10] = so ++ para ss sm (n + 1)) := by show _ = _; rw [HPS.out]; simp [lineOf, hn0]
                    go_wp2
                    go_roundw
                    case rel => exact ⟨n + 1, by omega, by go_num, (by rw [← HE2.out]; exact HOz.out), HF2.out.trans (HF3.out.trans (HFa.out.trans HFz.out))⟩
                    case measure => simp [intOf]; omega
              · have hn1 : ¬ (0 : Int) < (n : Int) := by omega
                go_wp2_with fail
                go_at_call 21
                refine (wr_any s (so ++ para ss sm n ++ s.data.toList) (rfl) HO2.out Hsz2.out (by have := HPn.out; have := Hlen.out; have := Hsl.out; simp only [List.length_append, List.length_replicate]; omega)).mono ?_
                rintro e' wa ⟨rfl, hoa, hfa⟩
                have HOa := Lib.hid hoa
                have HFa := Lib.hid hfa
                have Hsza : Hid (w0.heap.size ≤ wa.heap.size) := by show _ ≤ _; have := hfa.1.size; have := Hsz2.out; omega
                clear hoa hfa
                go_wp2_with fail
                go_at_call 21
                refine (wr_any ⟨#[10]⟩ (so ++ para ss sm n ++ s.data.toList ++ [10]) (rfl) HOa.out Hsza.out (by have := HPn.out; have := Hlen.out; have := Hsl.out; simp only [List.length_append, List.length_replicate, List.length_singleton]; omega)).mono ?_
                rintro e' wz ⟨rfl, hoz, hfz⟩
                have HOz := Lib.hid hoz
                have HFz := Lib.hid hfz
                have Hszz : Hid (w0.heap.size ≤ wz.heap.size) := by show _ ≤ _; have := hfz.1.size; have := Hsza.out; omega
                clear hoz hfz
                have HE2 : Hid (so ++ para ss sm n ++ s.data.toList ++ [10] = so ++ para ss sm (n + 1)) := by show _ = _; rw [HPS.out]; simp [lineOf, hn0]
                go_wp2
                go_roundw
                case rel => exact ⟨n + 1, by omega, by go_num, (by rw [← HE2.out]; exact HOz.out), HF2.out.trans (HFa.out.trans HFz.out)⟩
                case measure => simp [intOf]; omega
            · obtain rfl : ss.length = n := by omega
              rw [← HLPe.out] at HO2
              go_wp2
              have hcnt2p : bb ≤ 1000 := HBj.out.1
              go_loopw [17] (fun i wr => ∃ m : Nat, m ≤ bb ∧ i = .int .i64 m ∧ Buf wr w0.heap.size b (LP ++ List.replicate m 10) ∧ Fb w0.heap.size b w2 wr) (fun i _ => bb - (intOf i).toNat)
              case atStart => exact ⟨0, by omega, rfl, by simpa using HO2.out, Fb.refl _ _ _⟩
              case round =>
                obtain ⟨m, hm, rfl, ho2p, hf2p⟩ := hrel
                obtain ⟨w2p, rfl⟩ : ∃ w2p : World, w2p = wr := ⟨_, rfl⟩
                have HO2p := Lib.hid ho2p
                have HF2p := Lib.hid hf2p
                have Hsz2p : Hid (w0.heap.size ≤ w2p.heap.size) := by show _ ≤ _; have := hf2p.1.size; have := Hsz2.out; omega
                clear ho2p hf2p
                obtain ⟨-, -, dd22p, dd32p⟩ := (HCp.out.fb ((HF2.out.trans HF2p.out)) hqb).cells
                by_cases hlt2p : m < bb
                · go_wp2_with fail
                  go_at_call 21
                  refine (wr_any ⟨#[10]⟩ (LP ++ List.replicate (m + 1) 10) (rep_snoc _ _ _) HO2p.out Hsz2p.out (by have := HLP.out; have := HBj.out; simp only [List.length_append, List.length_replicate]; omega)).mono ?_
                  rintro e' w2pn ⟨rfl, ho2pn, hf2pn⟩
                  have HO2pn := Lib.hid ho2pn
                  have HF2pn := Lib.hid hf2pn
                  have Hsz2pn : Hid (w0.heap.size ≤ w2pn.heap.size) := by show _ ≤ _; have := hf2pn.1.size; have := Hsz2p.out; omega
                  clear ho2pn hf2pn
                  go_wp2
                  go_roundw
                  case rel => first | exact ⟨m + 1, by omega, by go_num, HO2pn.out, HF2p.out.trans HF2pn.out⟩ | ((repeat apply Exists.intro); exact ⟨⟨m + 1, by omega, by go_num, HO2pn.out, HF2p.out.trans HF2pn.out⟩, rfl⟩)
                  case measure => simp [intOf]; omega
                · obtain rfl : bb = m := by omega
                  go_wp2
                  have hcnt2pq : j ≤ 1000 := HBj.out.2
                  go_loopw [18] (fun i wr => ∃ m : Nat, m ≤ j ∧ i = .int .i64 m ∧ Buf wr w0.heap.size b (LP ++ List.replicate bb 10 ++ List.replicate m 32) ∧ Fb w0.heap.size b w2p wr) (fun i _ => j - (intOf i).toNat)
                  case atStart => exact ⟨0, by omega, rfl, by simpa using HO2p.out, Fb.refl _ _ _⟩
                  case round =>
                    obtain ⟨m, hm, rfl, ho2pq, hf2pq⟩ := hrel
                    obtain ⟨w2pq, rfl⟩ : ∃ w2pq : World, w2pq = wr := ⟨_, rfl⟩
                    have HO2pq := Lib.hid ho2pq
                    have HF2pq := Lib.hid hf2pq
                    have Hsz2pq : Hid (w0.heap.size ≤ w2pq.heap.size) := by show _ ≤ _; have := hf2pq.1.size; have := Hsz2p.out; omega
                    clear ho2pq hf2pq
                    obtain ⟨-, -, dd22pq, dd32pq⟩ := (HCp.out.fb (((HF2.out.trans HF2p.out).trans HF2pq.out)) hqb).cells
                    by_cases hlt2pq : m < j
                    · go_wp2_with fail
                      go_at_call 21
                      refine (wr_any ⟨#[32]⟩ (LP ++ List.replicate bb 10 ++ List.replicate (m + 1) 32) (rep_snoc _ _ _) HO2pq.out Hsz2pq.out (by have := HLP.out; have := HBj.out; simp only [List.length_append, List.length_replicate]; omega)).mono ?_
                      rintro e' w2pqn ⟨rfl, ho2pqn, hf2pqn⟩
                      have HO2pqn := Lib.hid ho2pqn
                      have HF2pqn := Lib.hid hf2pqn
                      have Hsz2pqn : Hid (w0.heap.size ≤ w2pqn.heap.size) := by show _ ≤ _; have := hf2pqn.1.size; have := Hsz2pq.out; omega
                      clear ho2pqn hf2pqn
                      go_wp2
                      go_roundw
                      case rel => first | exact ⟨m + 1, by omega, by go_num, HO2pqn.out, HF2pq.out.trans HF2pqn.out⟩ | ((repeat apply Exists.intro); exact ⟨⟨m + 1, by omega, by go_num, HO2pqn.out, HF2pq.out.trans HF2pqn.out⟩, rfl⟩)
                      case measure => simp [intOf]; omega
                    · obtain rfl : j = m := by omega
                      go_wp2
                      go_roundw
                      case rel => exact ⟨k + 1, ⟨LP ++ List.replicate bb 10 ++ List.replicate j 32, false, j⟩, by omega, by go_num, (by show _ = _; rw [HX.out]), rfl, rfl, HO2pq.out, HFn.out.trans ((HF2.out.trans HF2p.out).trans HF2pq.out).1⟩
                      case measure => simp [intOf]; omega
      have HOn := HBn
      by_cases hK0 : K = 0
      · subst hK0
        clear hK hK2
        have hl1 := ok_0 Hok.out
        by_cases hss : ss = []
        · subst hss
          clear hl1
          rcases hd with ⟨rfl, hke⟩ | rfl | ⟨rfl, hke⟩
          · have z2 : ((k : Int) == (E.length : Int) - 1) = true := by simp; omega
            obtain ⟨LP, hLP⟩ : ∃ LP : List UInt8, LP = so ++ [10] := ⟨_, rfl⟩
            have HX : Hid (run E true c0 (k + 1) = ⟨LP, false, j⟩) := by show _ = _; rw [← Hst.out, hLP]; simp [stepOf, tailOf, first, hke]
            have HLPe := Lib.hid hLP
            have HLP : Hid (LP.length ≤ 3024020) := by show _ ≤ _; have := Hlen.out; rw [hLP, List.length_append, List.length_singleton]; omega
            clear hLP hke
            go_wp2_with fail
            go_at_call 21
            refine (wr_any ⟨#[10]⟩ (so ++ [10]) (rfl) HOn.out Hszn.out (by have := Hlen.out; simp only [List.length_append, List.length_singleton, List.length_cons, List.length_nil]; omega)).mono ?_
            rintro e' wa ⟨rfl, hoa, hfa⟩
            have HOa := Lib.hid hoa
            have HFa := Lib.hid hfa
            have Hsza : Hid (w0.heap.size ≤ wa.heap.size) := by show _ ≤ _; have := hfa.1.size; have := Hszn.out; omega
            clear hoa hfa
            rw [← HLPe.out] at HOa
            obtain ⟨-, -, dd2, dd3⟩ := (HCp.out.fb HFa.out hqb).cells
            go_wp2
            go_roundw
            case rel => exact ⟨k + 1, ⟨LP, false, j⟩, by omega, by go_num, (by show _ = _; rw [HX.out]), rfl, rfl, HOa.out, HFn.out.trans (HFa.out).1⟩
            case measure => simp [intOf]; omega
          · obtain ⟨LP, hLP⟩ : ∃ LP : List UInt8, LP = so ++ [10] := ⟨_, rfl⟩
            have HX : Hid (run E false c0 (k + 1) = ⟨LP ++ List.replicate bb 10 ++ List.replicate j 32, false, j⟩) := by show _ = _; rw [← Hst.out, hLP]; simp [stepOf, tailOf, first]
            have HLPe := Lib.hid hLP
            have HLP : Hid (LP.length ≤ 3024020) := by show _ ≤ _; have := Hlen.out; rw [hLP, List.length_append, List.length_singleton]; omega
            clear hLP
            go_wp2_with fail
            go_at_call 21
            refine (wr_any ⟨#[10]⟩ (so ++ [10]) (rfl) HOn.out Hszn.out (by have := Hlen.out; simp only [List.length_append, List.length_singleton, List.length_cons, List.length_nil]; omega)).mono ?_
            rintro e' wa ⟨rfl, hoa, hfa⟩
            have HOa := Lib.hid hoa
            have HFa := Lib.hid hfa
            have Hsza : Hid (w0.heap.size ≤ wa.heap.size) := by show _ ≤ _; have := hfa.1.size; have := Hszn.out; omega
            clear hoa hfa
            rw [← HLPe.out] at HOa
            go_wp2
            have hcntap : bb ≤ 1000 := HBj.out.1
            go_loopw [19] (fun i wr => ∃ m : Nat, m ≤ bb ∧ i = .int .i64 m ∧ Buf wr w0.heap.size b (LP ++ List.replicate m 10) ∧ Fb w0.heap.size b wa wr) (fun i _ => bb - (intOf i).toNat)
            case atStart => exact ⟨0, by omega, rfl, by simpa using HOa.out, Fb.refl _ _ _⟩
            case round =>
              obtain ⟨m, hm, rfl, hoap, hfap⟩ := hrel
              obtain ⟨wap, rfl⟩ : ∃ wap : World, wap = wr := ⟨_, rfl⟩
              have HOap := Lib.hid hoap
              have HFap := Lib.hid hfap
              have Hszap : Hid (w0.heap.size ≤ wap.heap.size) := by show _ ≤ _; have := hfap.1.size; have := Hsza.out; omega
              clear hoap hfap
              obtain ⟨-, -, dd2ap, dd3ap⟩ := (HCp.out.fb ((HFa.out.trans HFap.out)) hqb).cells
              by_cases hltap : m < bb
              · go_wp2_with fail
                go_at_call 21
                refine (wr_any ⟨#[10]⟩ (LP ++ List.replicate (m + 1) 10) (rep_snoc _ _ _) HOap.out Hszap.out (by have := HLP.out; have := HBj.out; simp only [List.length_append, List.length_replicate]; omega)).mono ?_
                rintro e' wapn ⟨rfl, hoapn, hfapn⟩
                have HOapn := Lib.hid hoapn
                have HFapn := Lib.hid hfapn
                have Hszapn : Hid (w0.heap.size ≤ wapn.heap.size) := by show _ ≤ _; have := hfapn.1.size; have := Hszap.out; omega
                clear hoapn hfapn
                go_wp2
                go_roundw
                case rel => first | exact ⟨m + 1, by omega, by go_num, HOapn.out, HFap.out.trans HFapn.out⟩ | ((repeat apply Exists.intro); exact ⟨⟨m + 1, by omega, by go_num, HOapn.out, HFap.out.trans HFapn.out⟩, rfl⟩)
                case measure => simp [intOf]; omega
              · obtain rfl : bb = m := by omega
                go_wp2
                have hcntapq : j ≤ 1000 := HBj.out.2
                go_loopw [20] (fun i wr => ∃ m : Nat, m ≤ j ∧ i = .int .i64 m ∧ Buf wr w0.heap.size b (LP ++ List.replicate bb 10 ++ List.replicate m 32) ∧ Fb w0.heap.size b wap wr) (fun i _ => j - (intOf i).toNat)
                case atStart => exact ⟨0, by omega, rfl, by simpa using HOap.out, Fb.refl _ _ _⟩
                case round =>
                  obtain ⟨m, hm, rfl, hoapq, hfapq⟩ := hrel
                  obtain ⟨wapq, rfl⟩ : ∃ wapq : World, wapq = wr := ⟨_, rfl⟩
                  have HOapq := Lib.hid hoapq
                  have HFapq := Lib.hid hfapq
                  have Hszapq : Hid (w0.heap.size ≤ wapq.heap.size) := by show _ ≤ _; have := hfapq.1.size; have := Hszap.out; omega
                  clear hoapq hfapq
                  obtain ⟨-, -, dd2apq, dd3apq⟩ := (HCp.out.fb (((HFa.out.trans HFap.out).trans HFapq.out)) hqb).cells
                  by_cases hltapq : m < j
                  · go_wp2_with fail
                    go_at_call 21
                    refine (wr_any ⟨#[32]⟩ (LP ++ List.replicate bb 10 ++ List.replicate (m + 1) 32) (rep_snoc _ _ _) HOapq.out Hszapq.out (by have := HLP.out; have := HBj.out; simp only [List.length_append, List.length_replicate]; omega)).mono ?_
                    rintro e' wapqn ⟨rfl, hoapqn, hfapqn⟩
                    have HOapqn := Lib.hid hoapqn
                    have HFapqn := Lib.hid hfapqn
                    have Hszapqn : Hid (w0.heap.size ≤ wapqn.heap.size) := by show _ ≤ _; have := hfapqn.1.size; have := Hszapq.out; omega
                    clear hoapqn hfapqn
                    go_wp2
                    go_roundw
                    case rel => first | exact ⟨m + 1, by omega, by go_num, HOapqn.out, HFapq.out.trans HFapqn.out⟩ | ((repeat apply Exists.intro); exact ⟨⟨m + 1, by omega, by go_num, HOapqn.out, HFapq.out.trans HFapqn.out⟩, rfl⟩)
                    case measure => simp [intOf]; omega
                  · obtain rfl : j = m := by omega
                    go_wp2
                    go_roundw
                    case rel => exact ⟨k + 1, ⟨LP ++ List.replicate bb 10 ++ List.replicate j 32, false, j⟩, by omega, by go_num, (by show _ = _; rw [HX.out]), rfl, rfl, HOapq.out, HFn.out.trans ((HFa.out.trans HFap.out).trans HFapq.out).1⟩
                    case measure => simp [intOf]; omega
          · have z2 : ((k : Int) == (E.length : Int) - 1) = false := by simp; omega
            obtain ⟨LP, hLP⟩ : ∃ LP : List UInt8, LP = so ++ [10] := ⟨_, rfl⟩
            have HX : Hid (run E true c0 (k + 1) = ⟨LP ++ List.replicate bb 10 ++ List.replicate j 32, false, j⟩) := by show _ = _; rw [← Hst.out, hLP]; simp [stepOf, tailOf, first, hke]
            have HLPe := Lib.hid hLP
            have HLP : Hid (LP.length ≤ 3024020) := by show _ ≤ _; have := Hlen.out; rw [hLP, List.length_append, List.length_singleton]; omega
            clear hLP hke
            go_wp2_with fail
            go_at_call 21
            refine (wr_any ⟨#[10]⟩ (so ++ [10]) (rfl) HOn.out Hszn.out (by have := Hlen.out; simp only [List.length_append, List.length_singleton, List.length_cons, List.length_nil]; omega)).mono ?_
            rintro e' wa ⟨rfl, hoa, hfa⟩
            have HOa := Lib.hid hoa
            have HFa := Lib.hid hfa
            have Hsza : Hid (w0.heap.size ≤ wa.heap.size) := by show _ ≤ _; have := hfa.1.size; have := Hszn.out; omega
            clear hoa hfa
            rw [← HLPe.out] at HOa
            go_wp2
            have hcntap : bb ≤ 1000 := HBj.out.1
            go_loopw [19] (fun i wr => ∃ m : Nat, m ≤ bb ∧ i = .int .i64 m ∧ Buf wr w0.heap.size b (LP ++ List.replicate m 10) ∧ Fb w0.heap.size b wa wr) (fun i _ => bb - (intOf i).toNat)
            case atStart => exact ⟨0, by omega, rfl, by simpa using HOa.out, Fb.refl _ _ _⟩
            case round =>
              obtain ⟨m, hm, rfl, hoap, hfap⟩ := hrel
              obtain ⟨wap, rfl⟩ : ∃ wap : World, wap = wr := ⟨_, rfl⟩
              have HOap := Lib.hid hoap
              have HFap := Lib.hid hfap
              have Hszap : Hid (w0.heap.size ≤ wap.heap.size) := by show _ ≤ _; have := hfap.1.size; have := Hsza.out; omega
              clear hoap hfap
              obtain ⟨-, -, dd2ap, dd3ap⟩ := (HCp.out.fb ((HFa.out.trans HFap.out)) hqb).cells
              by_cases hltap : m < bb
              · go_wp2_with fail
                go_at_call 21
                refine (wr_any ⟨#[10]⟩ (LP ++ List.replicate (m + 1) 10) (rep_snoc _ _ _) HOap.out Hszap.out (by have := HLP.out; have := HBj.out; simp only [List.length_append, List.length_replicate]; omega)).mono ?_
                rintro e' wapn ⟨rfl, hoapn, hfapn⟩
                have HOapn := Lib.hid hoapn
                have HFapn := Lib.hid hfapn
                have Hszapn : Hid (w0.heap.size ≤ wapn.heap.size) := by show _ ≤ _; have := hfapn.1.size; have := Hszap.out; omega
                clear hoapn hfapn
                go_wp2
                go_roundw
                case rel => first | exact ⟨m + 1, by omega, by go_num, HOapn.out, HFap.out.trans HFapn.out⟩ | ((repeat apply Exists.intro); exact ⟨⟨m + 1, by omega, by go_num, HOapn.out, HFap.out.trans HFapn.out⟩, rfl⟩)
                case measure => simp [intOf]; omega
              · obtain rfl : bb = m := by omega
                go_wp2
                have hcntapq : j ≤ 1000 := HBj.out.2
                go_loopw [20] (fun i wr => ∃ m : Nat, m ≤ j ∧ i = .int .i64 m ∧ Buf wr w0.heap.size b (LP ++ List.replicate bb 10 ++ List.replicate m 32) ∧ Fb w0.heap.size b wap wr) (fun i _ => j - (intOf i).toNat)
                case atStart => exact ⟨0, by omega, rfl, by simpa using HOap.out, Fb.refl _ _ _⟩
                case round =>
                  obtain ⟨m, hm, rfl, hoapq, hfapq⟩ := hrel
                  obtain ⟨wapq, rfl⟩ : ∃ wapq : World, wapq = wr := ⟨_, rfl⟩
                  have HOapq := Lib.hid hoapq
                  have HFapq := Lib.hid hfapq
                  have Hszapq : Hid (w0.heap.size ≤ wapq.heap.size) := by show _ ≤ _; have := hfapq.1.size; have := Hszap.out; omega
                  clear hoapq hfapq
                  obtain ⟨-, -, dd2apq, dd3apq⟩ := (HCp.out.fb (((HFa.out.trans HFap.out).trans HFapq.out)) hqb).cells
                  by_cases hltapq : m < j
                  · go_wp2_with fail
                    go_at_call 21
                    refine (wr_any ⟨#[32]⟩ (LP ++ List.replicate bb 10 ++ List.replicate (m + 1) 32) (rep_snoc _ _ _) HOapq.out Hszapq.out (by have := HLP.out; have := HBj.out; simp only [List.length_append, List.length_replicate]; omega)).mono ?_
                    rintro e' wapqn ⟨rfl, hoapqn, hfapqn⟩
                    have HOapqn := Lib.hid hoapqn
                    have HFapqn := Lib.hid hfapqn
                    have Hszapqn : Hid (w0.heap.size ≤ wapqn.heap.size) := by show _ ≤ _; have := hfapqn.1.size; have := Hszapq.out; omega
                    clear hoapqn hfapqn
                    go_wp2
                    go_roundw
                    case rel => first | exact ⟨m + 1, by omega, by go_num, HOapqn.out, HFapq.out.trans HFapqn.out⟩ | ((repeat apply Exists.intro); exact ⟨⟨m + 1, by omega, by go_num, HOapqn.out, HFapq.out.trans HFapqn.out⟩, rfl⟩)
                    case measure => simp [intOf]; omega
                  · obtain rfl : j = m := by omega
                    go_wp2
                    go_roundw
                    case rel => exact ⟨k + 1, ⟨LP ++ List.replicate bb 10 ++ List.replicate j 32, false, j⟩, by omega, by go_num, (by show _ = _; rw [HX.out]), rfl, rfl, HOapq.out, HFn.out.trans ((HFa.out.trans HFap.out).trans HFapq.out).1⟩
                    case measure => simp [intOf]; omega
        · obtain ⟨s, rfl⟩ : ∃ s, ss = [s] := List.length_eq_one_iff.1 (by have : ss.length ≠ 0 := fun h => hss (List.eq_nil_of_length_eq_zero h); omega)
          clear hss hl1
          obtain ⟨ad', s', rfl, hb', hs', hcl⟩ := Hr.out.line (k := 0) (by simp)
          simp only [List.getElem?_cons_zero, Option.some.injEq] at hs'
          subst hs'
          have e0 : ad'.add 0 = ad' := by simp [Addr.add]
          rw [e0] at hcl
          have Hcl : Hid (∀ W, Below w0.heap.size w0 W → W.cell? ad' = some (.string s)) := fun W hW => (hW.cell (p := ad') hb').trans hcl
          have Hnum : Hid (s.size ≤ 200 ∧ s.data.toList.length = s.size) := ⟨Hok.out.2.2.2.2.2.1 0 s rfl, Lib.size_eq s ▸ rfl⟩
          have hbl : ad'.block < wo.heap.size := by omega
          have hl0 : wo.cell? ad' = some (.string s) := Hcl.out _ Hf.out
          clear hcl e0
          rcases hd with ⟨rfl, hke⟩ | rfl | ⟨rfl, hke⟩
          · have z2 : ((k : Int) == (E.length : Int) - 1) = true := by simp; omega
            obtain ⟨LP, hLP⟩ : ∃ LP : List UInt8, LP = so ++ [32, 32] ++ s.data.toList ++ [10] := ⟨_, rfl⟩
            have HX : Hid (run E true c0 (k + 1) = ⟨LP, false, j⟩) := by show _ = _; rw [← Hst.out, hLP]; simp [stepOf, tailOf, first, hke]
            have HLPe := Lib.hid hLP
            have HLP : Hid (LP.length ≤ 3024020) := by show _ ≤ _; have := Hlen.out; have := Hnum.out; rw [hLP]; simp only [List.length_append, List.length_singleton, List.length_cons, List.length_nil]; omega
            clear hLP hke
            go_wp2_with fail
            go_at_call 21
            refine (wr_any ⟨#[32, 32]⟩ (so ++ [32, 32]) (rfl) HOn.out Hszn.out (by have := Hlen.out; have := Hnum.out; simp only [List.length_append, List.length_singleton, List.length_cons, List.length_nil]; omega)).mono ?_
            rintro e' wa ⟨rfl, hoa, hfa⟩
            have HOa := Lib.hid hoa
            have HFa := Lib.hid hfa
            have Hsza : Hid (w0.heap.size ≤ wa.heap.size) := by show _ ≤ _; have := hfa.1.size; have := Hszn.out; omega
            clear hoa hfa
            obtain ⟨dd0, -, -, -⟩ := (HCp.out.fb HFa.out hqb).cells
            have dla := Hcl.out _ (HFn.out.trans HFa.out.1)
            go_wp2_with fail
            go_at_call 21
            refine (wr_any s (so ++ [32, 32] ++ s.data.toList) (rfl) HOa.out Hsza.out (by have := Hlen.out; have := Hnum.out; simp only [List.length_append, List.length_singleton, List.length_cons, List.length_nil]; omega)).mono ?_
            rintro e' wb ⟨rfl, hob, hfb⟩
            have HOb := Lib.hid hob
            have HFb := Lib.hid hfb
            have Hszb : Hid (w0.heap.size ≤ wb.heap.size) := by show _ ≤ _; have := hfb.1.size; have := Hsza.out; omega
            clear hob hfb
            clear dd0 dla
            go_wp2_with fail
            go_at_call 21
            refine (wr_any ⟨#[10]⟩ (so ++ [32, 32] ++ s.data.toList ++ [10]) (rfl) HOb.out Hszb.out (by have := Hlen.out; have := Hnum.out; simp only [List.length_append, List.length_singleton, List.length_cons, List.length_nil]; omega)).mono ?_
            rintro e' wc ⟨rfl, hoc, hfc⟩
            have HOc := Lib.hid hoc
            have HFc := Lib.hid hfc
            have Hszc : Hid (w0.heap.size ≤ wc.heap.size) := by show _ ≤ _; have := hfc.1.size; have := Hszb.out; omega
            clear hoc hfc
            rw [← HLPe.out] at HOc
            obtain ⟨-, -, dd2, dd3⟩ := (HCp.out.fb (HFa.out.trans (HFb.out.trans HFc.out)) hqb).cells
            go_wp2
            go_roundw
            case rel => exact ⟨k + 1, ⟨LP, false, j⟩, by omega, by go_num, (by show _ = _; rw [HX.out]), rfl, rfl, HOc.out, HFn.out.trans ((HFa.out.trans (HFb.out.trans HFc.out))).1⟩
            case measure => simp [intOf]; omega
          · obtain ⟨LP, hLP⟩ : ∃ LP : List UInt8, LP = so ++ [32, 32] ++ s.data.toList ++ [10] := ⟨_, rfl⟩
            have HX : Hid (run E false c0 (k + 1) = ⟨LP ++ List.replicate bb 10 ++ List.replicate j 32, false, j⟩) := by show _ = _; rw [← Hst.out, hLP]; simp [stepOf, tailOf, first]
            have HLPe := Lib.hid hLP
            have HLP : Hid (LP.length ≤ 3024020) := by show _ ≤ _; have := Hlen.out; have := Hnum.out; rw [hLP]; simp only [List.length_append, List.length_singleton, List.length_cons, List.length_nil]; omega
            clear hLP
            go_wp2_with fail
            go_at_call 21
            refine (wr_any ⟨#[32, 32]⟩ (so ++ [32, 32]) (rfl) HOn.out Hszn.out (by have := Hlen.out; have := Hnum.out; simp only [List.length_append, List.length_singleton, List.length_cons, List.length_nil]; omega)).mono ?_
            rintro e' wa ⟨rfl, hoa, hfa⟩
            have HOa := Lib.hid hoa
            have HFa := Lib.hid hfa
            have Hsza : Hid (w0.heap.size ≤ wa.heap.size) := by show _ ≤ _; have := hfa.1.size; have := Hszn.out; omega
            clear hoa hfa
            obtain ⟨dd0, -, -, -⟩ := (HCp.out.fb HFa.out hqb).cells
            have dla := Hcl.out _ (HFn.out.trans HFa.out.1)
            go_wp2_with fail
            go_at_call 21
            refine (wr_any s (so ++ [32, 32] ++ s.data.toList) (rfl) HOa.out Hsza.out (by have := Hlen.out; have := Hnum.out; simp only [List.length_append, List.length_singleton, List.length_cons, List.length_nil]; omega)).mono ?_
            rintro e' wb ⟨rfl, hob, hfb⟩
            have HOb := Lib.hid hob
            have HFb := Lib.hid hfb
            have Hszb : Hid (w0.heap.size ≤ wb.heap.size) := by show _ ≤ _; have := hfb.1.size; have := Hsza.out; omega
            clear hob hfb
            clear dd0 dla
            go_wp2_with fail
            go_at_call 21
            refine (wr_any ⟨#[10]⟩ (so ++ [32, 32] ++ s.data.toList ++ [10]) (rfl) HOb.out Hszb.out (by have := Hlen.out; have := Hnum.out; simp only [List.length_append, List.length_singleton, List.length_cons, List.length_nil]; omega)).mono ?_
            rintro e' wc ⟨rfl, hoc, hfc⟩
            have HOc := Lib.hid hoc
            have HFc := Lib.hid hfc
            have Hszc : Hid (w0.heap.size ≤ wc.heap.size) := by show _ ≤ _; have := hfc.1.size; have := Hszb.out; omega
            clear hoc hfc
            rw [← HLPe.out] at HOc
            go_wp2
            have hcntcp : bb ≤ 1000 := HBj.out.1
            go_loopw [19] (fun i wr => ∃ m : Nat, m ≤ bb ∧ i = .int .i64 m ∧ Buf wr w0.heap.size b (LP ++ List.replicate m 10) ∧ Fb w0.heap.size b wc wr) (fun i _ => bb - (intOf i).toNat)
            case atStart => exact ⟨0, by omega, rfl, by simpa using HOc.out, Fb.refl _ _ _⟩
            case round =>
              obtain ⟨m, hm, rfl, hocp, hfcp⟩ := hrel
              obtain ⟨wcp, rfl⟩ : ∃ wcp : World, wcp = wr := ⟨_, rfl⟩
              have HOcp := Lib.hid hocp
              have HFcp := Lib.hid hfcp
              have Hszcp : Hid (w0.heap.size ≤ wcp.heap.size) := by show _ ≤ _; have := hfcp.1.size; have := Hszc.out; omega
              clear hocp hfcp
              obtain ⟨-, -, dd2cp, dd3cp⟩ := (HCp.out.fb (((HFa.out.trans (HFb.out.trans HFc.out)).trans HFcp.out)) hqb).cells
              by_cases hltcp : m < bb
              · go_wp2_with fail
                go_at_call 21
                refine (wr_any ⟨#[10]⟩ (LP ++ List.replicate (m + 1) 10) (rep_snoc _ _ _) HOcp.out Hszcp.out (by have := HLP.out; have := HBj.out; simp only [List.length_append, List.length_replicate]; omega)).mono ?_
                rintro e' wcpn ⟨rfl, hocpn, hfcpn⟩
                have HOcpn := Lib.hid hocpn
                have HFcpn := Lib.hid hfcpn
                have Hszcpn : Hid (w0.heap.size ≤ wcpn.heap.size) := by show _ ≤ _; have := hfcpn.1.size; have := Hszcp.out; omega
                clear hocpn hfcpn
                go_wp2
                go_roundw
                case rel => first | exact ⟨m + 1, by omega, by go_num, HOcpn.out, HFcp.out.trans HFcpn.out⟩ | ((repeat apply Exists.intro); exact ⟨⟨m + 1, by omega, by go_num, HOcpn.out, HFcp.out.trans HFcpn.out⟩, rfl⟩)
                case measure => simp [intOf]; omega
              · obtain rfl : bb = m := by omega
                go_wp2
                have hcntcpq : j ≤ 1000 := HBj.out.2
                go_loopw [20] (fun i wr => ∃ m : Nat, m ≤ j ∧ i = .int .i64 m ∧ Buf wr w0.heap.size b (LP ++ List.replicate bb 10 ++ List.replicate m 32) ∧ Fb w0.heap.size b wcp wr) (fun i _ => j - (intOf i).toNat)
                case atStart => exact ⟨0, by omega, rfl, by simpa using HOcp.out, Fb.refl _ _ _⟩
                case round =>
                  obtain ⟨m, hm, rfl, hocpq, hfcpq⟩ := hrel
                  obtain ⟨wcpq, rfl⟩ : ∃ wcpq : World, wcpq = wr := ⟨_, rfl⟩
                  have HOcpq := Lib.hid hocpq
                  have HFcpq := Lib.hid hfcpq
                  have Hszcpq : Hid (w0.heap.size ≤ wcpq.heap.size) := by show _ ≤ _; have := hfcpq.1.size; have := Hszcp.out; omega
                  clear hocpq hfcpq
                  obtain ⟨-, -, dd2cpq, dd3cpq⟩ := (HCp.out.fb ((((HFa.out.trans (HFb.out.trans HFc.out)).trans HFcp.out).trans HFcpq.out)) hqb).cells
                  by_cases hltcpq : m < j
                  · go_wp2_with fail
                    go_at_call 21
                    refine (wr_any ⟨#[32]⟩ (LP ++ List.replicate bb 10 ++ List.replicate (m + 1) 32) (rep_snoc _ _ _) HOcpq.out Hszcpq.out (by have := HLP.out; have := HBj.out; simp only [List.length_append, List.length_replicate]; omega)).mono ?_
                    rintro e' wcpqn ⟨rfl, hocpqn, hfcpqn⟩
                    have HOcpqn := Lib.hid hocpqn
                    have HFcpqn := Lib.hid hfcpqn
                    have Hszcpqn : Hid (w0.heap.size ≤ wcpqn.heap.size) := by show _ ≤ _; have := hfcpqn.1.size; have := Hszcpq.out; omega
                    clear hocpqn hfcpqn
                    go_wp2
                    go_roundw
                    case rel => first | exact ⟨m + 1, by omega, by go_num, HOcpqn.out, HFcpq.out.trans HFcpqn.out⟩ | ((repeat apply Exists.intro); exact ⟨⟨m + 1, by omega, by go_num, HOcpqn.out, HFcpq.out.trans HFcpqn.out⟩, rfl⟩)
                    case measure => simp [intOf]; omega
                  · obtain rfl : j = m := by omega
                    go_wp2
                    go_roundw
                    case rel => exact ⟨k + 1, ⟨LP ++ List.replicate bb 10 ++ List.replicate j 32, false, j⟩, by omega, by go_num, (by show _ = _; rw [HX.out]), rfl, rfl, HOcpq.out, HFn.out.trans (((HFa.out.trans (HFb.out.trans HFc.out)).trans HFcp.out).trans HFcpq.out).1⟩
                    case measure => simp [intOf]; omega
          · have z2 : ((k : Int) == (E.length : Int) - 1) = false := by simp; omega
            obtain ⟨LP, hLP⟩ : ∃ LP : List UInt8, LP = so ++ [32, 32] ++ s.data.toList ++ [10] := ⟨_, rfl⟩
            have HX : Hid (run E true c0 (k + 1) = ⟨LP ++ List.replicate bb 10 ++ List.replicate j 32, false, j⟩) := by show _ = _; rw [← Hst.out, hLP]; simp [stepOf, tailOf, first, hke]
            have HLPe := Lib.hid hLP
            have HLP : Hid (LP.length ≤ 3024020) := by show _ ≤ _; have := Hlen.out; have := Hnum.out; rw [hLP]; simp only [List.length_append, List.length_singleton, List.length_cons, List.length_nil]; omega
            clear hLP hke
            go_wp2_with fail
            go_at_call 21
            refine (wr_any ⟨#[32, 32]⟩ (so ++ [32, 32]) (rfl) HOn.out Hszn.out (by have := Hlen.out; have := Hnum.out; simp only [List.length_append, List.length_singleton, List.length_cons, List.length_nil]; omega)).mono ?_
            rintro e' wa ⟨rfl, hoa, hfa⟩
            have HOa := Lib.hid hoa
            have HFa := Lib.hid hfa
            have Hsza : Hid (w0.heap.size ≤ wa.heap.size) := by show _ ≤ _; have := hfa.1.size; have := Hszn.out; omega
            clear hoa hfa
            obtain ⟨dd0, -, -, -⟩ := (HCp.out.fb HFa.out hqb).cells
            have dla := Hcl.out _ (HFn.out.trans HFa.out.1)
            go_wp2_with fail
            go_at_call 21
            refine (wr_any s (so ++ [32, 32] ++ s.data.toList) (rfl) HOa.out Hsza.out (by have := Hlen.out; have := Hnum.out; simp only [List.length_append, List.length_singleton, List.length_cons, List.length_nil]; omega)).mono ?_
            rintro e' wb ⟨rfl, hob, hfb⟩
            have HOb := Lib.hid hob
            have HFb := Lib.hid hfb
            have Hszb : Hid (w0.heap.size ≤ wb.heap.size) := by show _ ≤ _; have := hfb.1.size; have := Hsza.out; omega
            clear hob hfb
            clear dd0 dla
            go_wp2_with fail
            go_at_call 21
            refine (wr_any ⟨#[10]⟩ (so ++ [32, 32] ++ s.data.toList ++ [10]) (rfl) HOb.out Hszb.out (by have := Hlen.out; have := Hnum.out; simp only [List.length_append, List.length_singleton, List.length_cons, List.length_nil]; omega)).mono ?_
            rintro e' wc ⟨rfl, hoc, hfc⟩
            have HOc := Lib.hid hoc
            have HFc := Lib.hid hfc
            have Hszc : Hid (w0.heap.size ≤ wc.heap.size) := by show _ ≤ _; have := hfc.1.size; have := Hszb.out; omega
            clear hoc hfc
            rw [← HLPe.out] at HOc
            go_wp2
            have hcntcp : bb ≤ 1000 := HBj.out.1
            go_loopw [19] (fun i wr => ∃ m : Nat, m ≤ bb ∧ i = .int .i64 m ∧ Buf wr w0.heap.size b (LP ++ List.replicate m 10) ∧ Fb w0.heap.size b wc wr) (fun i _ => bb - (intOf i).toNat)
            case atStart => exact ⟨0, by omega, rfl, by simpa using HOc.out, Fb.refl _ _ _⟩
            case round =>
              obtain ⟨m, hm, rfl, hocp, hfcp⟩ := hrel
              obtain ⟨wcp, rfl⟩ : ∃ wcp : World, wcp = wr := ⟨_, rfl⟩
              have HOcp := Lib.hid hocp
              have HFcp := Lib.hid hfcp
              have Hszcp : Hid (w0.heap.size ≤ wcp.heap.size) := by show _ ≤ _; have := hfcp.1.size; have := Hszc.out; omega
              clear hocp hfcp
              obtain ⟨-, -, dd2cp, dd3cp⟩ := (HCp.out.fb (((HFa.out.trans (HFb.out.trans HFc.out)).trans HFcp.out)) hqb).cells
              by_cases hltcp : m < bb
              · go_wp2_with fail
                go_at_call 21
                refine (wr_any ⟨#[10]⟩ (LP ++ List.replicate (m + 1) 10) (rep_snoc _ _ _) HOcp.out Hszcp.out (by have := HLP.out; have := HBj.out; simp only [List.length_append, List.length_replicate]; omega)).mono ?_
                rintro e' wcpn ⟨rfl, hocpn, hfcpn⟩
                have HOcpn := Lib.hid hocpn
                have HFcpn := Lib.hid hfcpn
                have Hszcpn : Hid (w0.heap.size ≤ wcpn.heap.size) := by show _ ≤ _; have := hfcpn.1.size; have := Hszcp.out; omega
                clear hocpn hfcpn
                go_wp2
                go_roundw
                case rel => first | exact ⟨m + 1, by omega, by go_num, HOcpn.out, HFcp.out.trans HFcpn.out⟩ | ((repeat apply Exists.intro); exact ⟨⟨m + 1, by omega, by go_num, HOcpn.out, HFcp.out.trans HFcpn.out⟩, rfl⟩)
                case measure => simp [intOf]; omega
              · obtain rfl : bb = m := by omega
                go_wp2
                have hcntcpq : j ≤ 1000 := HBj.out.2
                go_loopw [20] (fun i wr => ∃ m : Nat, m ≤ j ∧ i = .int .i64 m ∧ Buf wr w0.heap.size b (LP ++ List.replicate bb 10 ++ List.replicate m 32) ∧ Fb w0.heap.size b wcp wr) (fun i _ => j - (intOf i).toNat)
                case atStart => exact ⟨0, by omega, rfl, by simpa using HOcp.out, Fb.refl _ _ _⟩
                case round =>
                  obtain ⟨m, hm, rfl, hocpq, hfcpq⟩ := hrel
                  obtain ⟨wcpq, rfl⟩ : ∃ wcpq : World, wcpq = wr := ⟨_, rfl⟩
                  have HOcpq := Lib.hid hocpq
                  have HFcpq := Lib.hid hfcpq
                  have Hszcpq : Hid (w0.heap.size ≤ wcpq.heap.size) := by show _ ≤ _; have := hfcpq.1.size; have := Hszcp.out; omega
                  clear hocpq hfcpq
                  obtain ⟨-, -, dd2cpq, dd3cpq⟩ := (HCp.out.fb ((((HFa.out.trans (HFb.out.trans HFc.out)).trans HFcp.out).trans HFcpq.out)) hqb).cells
                  by_cases hltcpq : m < j
                  · go_wp2_with fail
                    go_at_call 21
                    refine (wr_any ⟨#[32]⟩ (LP ++ List.replicate bb 10 ++ List.replicate (m + 1) 32) (rep_snoc _ _ _) HOcpq.out Hszcpq.out (by have := HLP.out; have := HBj.out; simp only [List.length_append, List.length_replicate]; omega)).mono ?_
                    rintro e' wcpqn ⟨rfl, hocpqn, hfcpqn⟩
                    have HOcpqn := Lib.hid hocpqn
                    have HFcpqn := Lib.hid hfcpqn
                    have Hszcpqn : Hid (w0.heap.size ≤ wcpqn.heap.size) := by show _ ≤ _; have := hfcpqn.1.size; have := Hszcpq.out; omega
                    clear hocpqn hfcpqn
                    go_wp2
                    go_roundw
                    case rel => first | exact ⟨m + 1, by omega, by go_num, HOcpqn.out, HFcpq.out.trans HFcpqn.out⟩ | ((repeat apply Exists.intro); exact ⟨⟨m + 1, by omega, by go_num, HOcpqn.out, HFcpq.out.trans HFcpqn.out⟩, rfl⟩)
                    case measure => simp [intOf]; omega
                  · obtain rfl : j = m := by omega
                    go_wp2
                    go_roundw
                    case rel => exact ⟨k + 1, ⟨LP ++ List.replicate bb 10 ++ List.replicate j 32, false, j⟩, by omega, by go_num, (by show _ = _; rw [HX.out]), rfl, rfl, HOcpq.out, HFn.out.trans (((HFa.out.trans (HFb.out.trans HFc.out)).trans HFcp.out).trans HFcpq.out).1⟩
                    case measure => simp [intOf]; omega
      · obtain rfl : K = 1 := by omega
        clear hK hK2 hK0
        obtain ⟨s, rfl⟩ : ∃ s, ss = [s] := List.length_eq_one_iff.1 (ok_1 Hok.out).1
        obtain ⟨ad', s', rfl, hb', hs', hcl⟩ := Hr.out.line (k := 0) (by simp)
        simp only [List.getElem?_cons_zero, Option.some.injEq] at hs'
        subst hs'
        have e0 : ad'.add 0 = ad' := by simp [Addr.add]
        rw [e0] at hcl
        have Hcl : Hid (∀ W, Below w0.heap.size w0 W → W.cell? ad' = some (.string s)) := fun W hW => (hW.cell (p := ad') hb').trans hcl
        have Hnum : Hid (s.size ≤ 200 ∧ s.data.toList.length = s.size) := ⟨Hok.out.2.2.2.2.2.1 0 s rfl, Lib.size_eq s ▸ rfl⟩
        have hbl : ad'.block < wo.heap.size := by omega
        have hl0 : wo.cell? ad' = some (.string s) := Hcl.out _ Hf.out
        clear hcl e0
        rcases hd with ⟨rfl, hke⟩ | rfl | ⟨rfl, hke⟩
        · have z2 : ((k : Int) == (E.length : Int) - 1) = true := by simp; omega
          clear hke
          cases cr
          · go_wp2_with fail
            go_at_call 21
            refine (wr_any s (so ++ s.data.toList) (rfl) HOn.out Hszn.out (by have := Hlen.out; have := Hnum.out; simp only [List.length_append, List.length_singleton, List.length_cons, List.length_nil]; omega)).mono ?_
            rintro e' wa ⟨rfl, hoa, hfa⟩
            have HOa := Lib.hid hoa
            have HFa := Lib.hid hfa
            have Hsza : Hid (w0.heap.size ≤ wa.heap.size) := by show _ ≤ _; have := hfa.1.size; have := Hszn.out; omega
            clear hoa hfa
            go_wp2
            go_roundw
            case rel => exact ⟨k + 1, ⟨so ++ s.data.toList, true, sm⟩, by omega, by go_num, (by show _ = _; rw [← Hst.out]; simp [stepOf, first]), rfl, rfl, HOa.out, HFn.out.trans (HFa.out).1⟩
            case measure => simp [intOf]; omega
          · go_wp2_with fail
            go_at_call 21
            refine (wr_any ⟨#[32]⟩ (so ++ [32]) (rfl) HOn.out Hszn.out (by have := Hlen.out; have := Hnum.out; simp only [List.length_append, List.length_singleton, List.length_cons, List.length_nil]; omega)).mono ?_
            rintro e' wa ⟨rfl, hoa, hfa⟩
            have HOa := Lib.hid hoa
            have HFa := Lib.hid hfa
            have Hsza : Hid (w0.heap.size ≤ wa.heap.size) := by show _ ≤ _; have := hfa.1.size; have := Hszn.out; omega
            clear hoa hfa
            obtain ⟨dd0, -, -, -⟩ := (HCp.out.fb HFa.out hqb).cells
            have dla := Hcl.out _ (HFn.out.trans HFa.out.1)
            go_wp2_with fail
            go_at_call 21
            refine (wr_any s (so ++ [32] ++ s.data.toList) (rfl) HOa.out Hsza.out (by have := Hlen.out; have := Hnum.out; simp only [List.length_append, List.length_singleton, List.length_cons, List.length_nil]; omega)).mono ?_
            rintro e' wb ⟨rfl, hob, hfb⟩
            have HOb := Lib.hid hob
            have HFb := Lib.hid hfb
            have Hszb : Hid (w0.heap.size ≤ wb.heap.size) := by show _ ≤ _; have := hfb.1.size; have := Hsza.out; omega
            clear hob hfb
            clear dd0 dla
            go_wp2
            go_roundw
            case rel => exact ⟨k + 1, ⟨so ++ [32] ++ s.data.toList, true, sm⟩, by omega, by go_num, (by show _ = _; rw [← Hst.out]; simp [stepOf, first]), rfl, rfl, HOb.out, HFn.out.trans (HFa.out.trans HFb.out).1⟩
            case measure => simp [intOf]; omega
        · cases cr
          · go_wp2_with fail
            go_at_call 21
            refine (wr_any s (so ++ s.data.toList) (rfl) HOn.out Hszn.out (by have := Hlen.out; have := Hnum.out; simp only [List.length_append, List.length_singleton, List.length_cons, List.length_nil]; omega)).mono ?_
            rintro e' wa ⟨rfl, hoa, hfa⟩
            have HOa := Lib.hid hoa
            have HFa := Lib.hid hfa
            have Hsza : Hid (w0.heap.size ≤ wa.heap.size) := by show _ ≤ _; have := hfa.1.size; have := Hszn.out; omega
            clear hoa hfa
            go_wp2
            go_roundw
            case rel => exact ⟨k + 1, ⟨so ++ s.data.toList, true, sm⟩, by omega, by go_num, (by show _ = _; rw [← Hst.out]; simp [stepOf, first]), rfl, rfl, HOa.out, HFn.out.trans (HFa.out).1⟩
            case measure => simp [intOf]; omega
          · go_wp2_with fail
            go_at_call 21
            refine (wr_any ⟨#[32]⟩ (so ++ [32]) (rfl) HOn.out Hszn.out (by have := Hlen.out; have := Hnum.out; simp only [List.length_append, List.length_singleton, List.length_cons, List.length_nil]; omega)).mono ?_
            rintro e' wa ⟨rfl, hoa, hfa⟩
            have HOa := Lib.hid hoa
            have HFa := Lib.hid hfa
            have Hsza : Hid (w0.heap.size ≤ wa.heap.size) := by show _ ≤ _; have := hfa.1.size; have := Hszn.out; omega
            clear hoa hfa
            obtain ⟨dd0, -, -, -⟩ := (HCp.out.fb HFa.out hqb).cells
            have dla := Hcl.out _ (HFn.out.trans HFa.out.1)
            go_wp2_with fail
            go_at_call 21
            refine (wr_any s (so ++ [32] ++ s.data.toList) (rfl) HOa.out Hsza.out (by have := Hlen.out; have := Hnum.out; simp only [List.length_append, List.length_singleton, List.length_cons, List.length_nil]; omega)).mono ?_
            rintro e' wb ⟨rfl, hob, hfb⟩
            have HOb := Lib.hid hob
            have HFb := Lib.hid hfb
            have Hszb : Hid (w0.heap.size ≤ wb.heap.size) := by show _ ≤ _; have := hfb.1.size; have := Hsza.out; omega
            clear hob hfb
            clear dd0 dla
            go_wp2
            go_roundw
            case rel => exact ⟨k + 1, ⟨so ++ [32] ++ s.data.toList, true, sm⟩, by omega, by go_num, (by show _ = _; rw [← Hst.out]; simp [stepOf, first]), rfl, rfl, HOb.out, HFn.out.trans (HFa.out.trans HFb.out).1⟩
            case measure => simp [intOf]; omega
        · have z2 : ((k : Int) == (E.length : Int) - 1) = false := by simp; omega
          clear hke
          cases cr
          · go_wp2_with fail
            go_at_call 21
            refine (wr_any s (so ++ s.data.toList) (rfl) HOn.out Hszn.out (by have := Hlen.out; have := Hnum.out; simp only [List.length_append, List.length_singleton, List.length_cons, List.length_nil]; omega)).mono ?_
            rintro e' wa ⟨rfl, hoa, hfa⟩
            have HOa := Lib.hid hoa
            have HFa := Lib.hid hfa
            have Hsza : Hid (w0.heap.size ≤ wa.heap.size) := by show _ ≤ _; have := hfa.1.size; have := Hszn.out; omega
            clear hoa hfa
            go_wp2
            go_roundw
            case rel => exact ⟨k + 1, ⟨so ++ s.data.toList, true, sm⟩, by omega, by go_num, (by show _ = _; rw [← Hst.out]; simp [stepOf, first]), rfl, rfl, HOa.out, HFn.out.trans (HFa.out).1⟩
            case measure => simp [intOf]; omega
          · go_wp2_with fail
            go_at_call 21
            refine (wr_any ⟨#[32]⟩ (so ++ [32]) (rfl) HOn.out Hszn.out (by have := Hlen.out; have := Hnum.out; simp only [List.length_append, List.length_singleton, List.length_cons, List.length_nil]; omega)).mono ?_
            rintro e' wa ⟨rfl, hoa, hfa⟩
            have HOa := Lib.hid hoa
            have HFa := Lib.hid hfa
            have Hsza : Hid (w0.heap.size ≤ wa.heap.size) := by show _ ≤ _; have := hfa.1.size; have := Hszn.out; omega
            clear hoa hfa
            obtain ⟨dd0, -, -, -⟩ := (HCp.out.fb HFa.out hqb).cells
            have dla := Hcl.out _ (HFn.out.trans HFa.out.1)
            go_wp2_with fail
            go_at_call 21
            refine (wr_any s (so ++ [32] ++ s.data.toList) (rfl) HOa.out Hsza.out (by have := Hlen.out; have := Hnum.out; simp only [List.length_append, List.length_singleton, List.length_cons, List.length_nil]; omega)).mono ?_
            rintro e' wb ⟨rfl, hob, hfb⟩
            have HOb := Lib.hid hob
            have HFb := Lib.hid hfb
            have Hszb : Hid (w0.heap.size ≤ wb.heap.size) := by show _ ≤ _; have := hfb.1.size; have := Hsza.out; omega
            clear hob hfb
            clear dd0 dla
            go_wp2
            go_roundw
            case rel => exact ⟨k + 1, ⟨so ++ [32] ++ s.data.toList, true, sm⟩, by omega, by go_num, (by show _ = _; rw [← Hst.out]; simp [stepOf, first]), rfl, rfl, HOb.out, HFn.out.trans (HFa.out.trans HFb.out).1⟩
            case measure => simp [intOf]; omega
    · obtain rfl : E.length = k := by omega
      have HT : Hid (textOf E c0 sep fin = so ++ (if (sep && cr) = true then [32] else [])) := by show _ = _; unfold textOf; rw [← hst.out]
      clear ho hf hst
      by_cases hsc : sep = true ∧ cr = true
      · obtain ⟨rfl, rfl⟩ := hsc
        have HszO : Hid (w0.heap.size ≤ wo.heap.size) := hsw
        have HOO := Ho
        go_wp2_with fail
        go_at_call 21
        refine (wr_any ⟨#[32]⟩ (so ++ [32]) (rfl) HOO.out HszO.out (by have := Hlen.out; simp only [List.length_append, List.length_singleton]; omega)).mono ?_
        rintro e' wa ⟨rfl, hoa, hfa⟩
        have HOa := Lib.hid hoa
        have HFa := Lib.hid hfa
        have Hsza : Hid (w0.heap.size ≤ wa.heap.size) := by show _ ≤ _; have := hfa.1.size; have := HszO.out; omega
        clear hoa hfa
        go_wp2
        first | go_end0 | go_ret | go_ret2
        exact ⟨rfl, (by rw [HT.out]; exact HOa.out), Hf.out.trans HFa.out.1⟩
      · have hd : sep = false ∨ sep = true ∧ cr = false := by cases sep <;> cases cr <;> simp_all
        clear hsc
        rcases hd with rfl | ⟨rfl, rfl⟩
        all_goals
          go_wp2
          first | go_end0 | go_ret | go_ret2
          exact ⟨rfl, (by rw [HT.out]; simpa using Ho.out), Hf.out⟩
end Go.Proofs.YtdjnknkdnacbnaaDoor
