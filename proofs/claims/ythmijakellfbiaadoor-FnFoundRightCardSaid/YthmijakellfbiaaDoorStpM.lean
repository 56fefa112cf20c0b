/-
  PartFind and Find at steps. Conditions: no step takes a field out.
-/
import Derived.Test.YthmijakellfbiaaDoorStpL
namespace Go.Proofs.YthmijakellfbiaaDoor
open Go.RowKit
set_option linter.unusedVariables false
set_option linter.unusedSimpArgs false

/-- Where a name is found among steps, from the right. -/
noncomputable def splace (s : ByteArray) : List St → Option Nat
  | [] => none
  | e :: L => @ite _ (s ∈ e.names) (Classical.propDecidable _) (some 0) ((splace s L).map (· + 1))
theorem splace_fplace (s : ByteArray) : ∀ {fs : List (ByteArray → Option Value)} {L : List St}, Flds fs L → fplace s fs = splace s L
  | [], [], _ => rfl
  | [], e :: L, h => by have := h.1; simp at this
  | f :: fs, [], h => by have := h.1; simp at this
  | f :: fs, e :: L, h => by
    have h0 := (h.2 0 f e rfl rfl).has s
    have ih := splace_fplace s (fs := fs) (L := L) ⟨by have := h.1; simpa using this, fun j g e' a b => h.2 (j + 1) g e' (by simpa using a) (by simpa using b)⟩
    unfold fplace splace
    by_cases hm : s ∈ e.names
    · rw [if_pos (h0.2 hm), if_pos hm]
    · rw [if_neg (fun a => hm (h0.1 a)), if_neg hm, ih]
theorem Flds.fv {fs : List (ByteArray → Option Value)} {L : List St} (h : Flds fs L) : ∀ f ∈ fs, Fv f := by
  intro f hf
  obtain ⟨j, hj, e⟩ := List.mem_iff_getElem.1 hf
  have hl : j < L.length := by have := h.1; omega
  exact (h.2 j f _ (by rw [← e]; exact List.getElem?_eq_getElem hj) (List.getElem?_eq_getElem hl)).fv
theorem sizeTree_sim (v : Value) (f : ByteArray → Option Value) (w : World) (h : Tree w v [f]) : ∃ p, v = .iface 93 (.pointer (some ⟨p, 0, none⟩)) := by
  obtain ⟨p, _, e, _⟩ := h
  exact ⟨p, e⟩
def PfTo (w : World) (o : Option Nat) (e : Ending) (w' : World) : Prop := ∃ (n k : Int), e = .returned (.tuple #[.bool o.isSome, .int .i64 n, .int .i64 k]) ∧ (∀ j : Nat, o = some j → n = j) ∧ (0 ≤ n ∧ n ≤ 1000) ∧ Below w.heap.size w w'
set_option maxRecDepth 100000 in
set_option maxHeartbeats 1000000 in
theorem partfind_any (A : Option Addr) (c : Nat) (E : List St) (s : ByteArray) (w : World) (h : Sts cellsC w A E) (hE : KeptE E) (hne : 0 < E.length) : Calls Tryd.prog 16 #[.slice A E.length c, .int .i64 0, .string s] w (PfTo w (splace s E.reverse)) := by
  have hE1 := hE.1
  have HE := Lib.hid hE
  have HR := Lib.hid h
  have HNE := Lib.hid hne
  clear hE h hne
  go_enter Tryd.func16, Tryd.ntmps16
  go_wp2_with fail
  go_at_call 22
  refine (jchain_any A c E w HR.out HE.out HNE.out).mono ?_
  rintro e w1 ⟨p, v, fs, rfl, hv, ht, hf, hb⟩
  have hfl : fs.length ≤ 12 := by have := hf.1; simp at this; omega
  obtain ⟨cc, bv⟩ := hv
  have k2 : w1.cell? ⟨p, 2, none⟩ = some v := bv.cell 2
  have HT := Lib.hid ht
  have HB := Lib.hid hb
  have HF := Lib.hid (splace_fplace s hf)
  have HV := Lib.hid hf.fv
  have hs1 := hb.size
  clear hf hb bv
  match fs, ht with
  | [], ht => exact False.elim ht
  | [f], ht =>
    obtain ⟨pv, rfl⟩ := sizeTree_sim v f w1 ht
    clear ht
    go_wp2_with fail
    go_at_call 23
    refine (find_any s [f] _ 0 w1 HT.out HV.out (by omega) (by simp only [List.length_cons, List.length_nil] at hfl ⊢; omega) (by omega)).mono ?_
    rintro e w2 ⟨b2, x2, n2, rfl, hb2, hk2, ⟨n2a, n2b⟩, hB2⟩
    have HK2 := Lib.hid hk2
    have HB2 := Lib.hid (HB.out.trans (hB2.mono hs1))
    have hs2 := HB2.out.size
    have hn2 : n2 ≤ 1000 := by simp only [List.length_cons, List.length_nil] at n2b hfl; omega
    rw [HF.out] at hb2 HK2
    clear hk2 hB2 n2b
    go_wp2_with fail
    rw [sim_meth _ _ _ (by kernel_rfl)]
    go_wp2_with (go_at_call 72; refine (sizeSim_any _ _).mono ?_; rintro e w' ⟨rfl, rfl⟩)
    go_ret3
    exact ⟨n2, _, rfl, HK2.out, ⟨n2a, hn2⟩, HB2.out.alloc hs2 _⟩
  | f :: g :: fs, ht =>
    obtain ⟨pe, l, r, rfl, be, -, -⟩ := ht
    have k3 : w1.cell? ⟨pe, 2, none⟩ = some (.int .i64 ((fs.length + 2 : Nat) : Int)) := be.cell 2
    obtain ⟨z, hz⟩ : ∃ z : Int, z = ((fs.length + 2 : Nat) : Int) := ⟨_, rfl⟩
    rw [← hz] at k3
    clear hz be
    go_wp2_with fail
    go_at_call 23
    refine (find_any s (f :: g :: fs) _ 0 w1 HT.out HV.out (by omega) (by simp only [List.length_cons, List.length_nil] at hfl ⊢; omega) (by omega)).mono ?_
    rintro e w2 ⟨b2, x2, n2, rfl, hb2, hk2, ⟨n2a, n2b⟩, hB2⟩
    have HK2 := Lib.hid hk2
    have HB2 := Lib.hid (HB.out.trans (hB2.mono hs1))
    have hs2 := HB2.out.size
    have hn2 : n2 ≤ 1000 := by simp only [List.length_cons, List.length_nil] at n2b hfl; omega
    rw [HF.out] at hb2 HK2
    have k4 := cell_below k3 hB2
    clear hk2 hB2 n2b
    go_wp2_with fail
    rw [ext_meth _ _ _ (by kernel_rfl)]
    go_wp2_with (go_at_call 71; refine (sizeExt_cell _ z _ (cell_al _ k4)).mono ?_; rintro e w' ⟨rfl, rfl⟩)
    go_ret3
    exact ⟨n2, _, rfl, HK2.out, ⟨n2a, hn2⟩, HB2.out.alloc hs2 _⟩

/-! ### Find -/
def FindTo (w : World) (o : Option Nat) (e : Ending) (w' : World) : Prop := ∃ (n k : Int), e = .returned (.tuple #[.bool o.isSome, .int .i64 n, .int .i64 k, .bool true]) ∧ (∀ j : Nat, o = some j → n = j) ∧ (0 ≤ n ∧ n ≤ 1000) ∧ Below w.heap.size w w'
theorem results_tmp4 {fn : Func} {t u v x : Tmp} (h : fn.results = #[.tmp t, .tmp u, .tmp v, .tmp x]) (tmps : Array Value) (P : Program) (w : World) :
    (results fn tmps).run P w = .ok (.tuple #[tmps.getD t undef, tmps.getD u undef, tmps.getD v undef, tmps.getD x undef]) w := by simp [results, h]
def KeptS (E : List St) : Prop := FewE E ∧ ∀ (k : Nat) (e : St), E[k]? = some e → e.is_ = false
theorem KeptS.kept {E : List St} (h : KeptS E) : KeptE (E.map cv) := by
  refine ⟨by simpa using h.1.1, fun k e he => ?_⟩
  rw [List.getElem?_map] at he
  cases h0 : E[k]? with
  | none => rw [h0] at he; cases he
  | some e0 =>
    rw [h0] at he
    simp at he
    subst he
    obtain ⟨h1, h2, _⟩ := h.1.2 k e0 h0
    exact ⟨h.2 k e0 h0, by simpa [cv] using h1, h2⟩
theorem splace_map (s : ByteArray) : ∀ L : List St, splace s (L.map cv) = splace s L
  | [] => rfl
  | e :: L => by
    show @ite _ (s ∈ (cv e).names) (Classical.propDecidable _) (some 0) ((splace s (L.map cv)).map (· + 1)) = _
    rw [splace_map s L]
    rfl
set_option maxRecDepth 100000 in
set_option maxHeartbeats 1000000 in
theorem find0_any (A : Option Addr) (c : Nat) (E : List St) (s : ByteArray) (w : World) (h : Sts cellsS w A E) (hE : KeptS E) (hne : 0 < E.length) : Calls Tryd.prog 10 #[.slice A E.length c, .int .i64 0, .string s] w (FindTo w (splace s E.reverse)) := by
  have HE := Lib.hid hE
  have HR := Lib.hid h
  have HNE := Lib.hid hne
  have HL : Hid ((E.map cv).length = E.length) := Lib.hid (by simp)
  have hS : splace s (E.map cv).reverse = splace s E.reverse := by rw [← List.map_reverse, splace_map]
  generalize splace s E.reverse = o at hS ⊢
  have HS := Lib.hid hS
  clear hS
  clear hE h hne
  go_enter Tryd.func10, Tryd.ntmps10
  go_wp2_with fail
  go_at_call 15
  refine (ichain_any A c E w HR.out HE.out.1).mono ?_
  rintro e w1 ⟨A1, c1, rfl, hs, hb⟩
  have HS1 := Lib.hid hs
  have HB1 := Lib.hid hb
  have hs1 := hb.size
  clear hs hb
  go_wp2_with fail
  go_at_call 16
  have hc := partfind_any A1 c1 (E.map cv) s w1 HS1.out HE.out.kept (by rw [HL.out]; exact HNE.out)
  rw [HL.out, HS.out] at hc
  refine hc.mono ?_
  rintro e w2 ⟨n, k, rfl, hk, hn, hB2⟩
  have HK := Lib.hid hk
  have HN := Lib.hid hn
  have HB2 := Lib.hid (HB1.out.trans (hB2.mono hs1))
  clear hk hn hB2 hc
  clear HS
  cases o
  · go_wp2
    refine bodyPost_ret (results_tmp4 rfl _ _ _) rfl ?_
    exact ⟨0, k, rfl, (fun j h => by cases h), by omega, HB2.out⟩
  · go_wp2
    refine bodyPost_ret (results_tmp4 rfl _ _ _) rfl ?_
    exact ⟨n, k, rfl, HK.out, HN.out, HB2.out⟩
end Go.Proofs.YthmijakellfbiaaDoor
