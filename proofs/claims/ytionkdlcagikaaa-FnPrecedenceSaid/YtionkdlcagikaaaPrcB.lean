/-
  spec.Made. Conditions: none.
-/
import Derived.Test.YtionkdlcagikaaaPrcA
import Derived.Deep.AppendLies
namespace Go.Proofs.Ytionkdlcagikaaa
open Go.RowKit
set_option linter.unusedVariables false
set_option linter.unusedSimpArgs false

theorem info_N : (Try.prog.info? 23).map (fun i => (i.zero, i.size, i.bytes)) = some (some (.agg #[.int .i64 0, .int .i64 0, .string ⟨#[]⟩, .int .i64 0, .int .i64 0]), 5, 48) := by kernel_rfl
theorem info_parts {P : Program} {t : TypeId} {z : Option Value} {s b : Nat} (h : (P.info? t).map (fun i => (i.zero, i.size, i.bytes)) = some (z, s, b)) : ∃ i, P.info? t = some i ∧ i.zero = z ∧ i.size = s ∧ i.bytes = b := by
  cases hi : P.info? t with
  | none => rw [hi] at h; cases h
  | some i =>
    rw [hi] at h
    simp only [Option.map_some, Option.some.injEq, Prod.mk.injEq] at h
    exact ⟨i, rfl, h.1, h.2.1, h.2.2⟩
def MadeTo (w : World) (T : List Nd) (e : Ending) (w' : World) : Prop := ∃ v, e = .returned v ∧ Nodes w' v T ∧ Below w.heap.size w w'
/-- The root's size is put in. -/
theorem root_set {w : World} {base : Nat} {n : Nd} {T : List Nd} {v : Value} (h : w.ownsRow base 23 5 v (T.length + 1) (flatN (n :: T))) (z : Int) :
    ∃ g c, v = .slice (some ⟨g, 0, none⟩) (T.length + 1) c ∧ T.length + 1 ≤ c ∧ base ≤ g ∧ g < w.heap.size ∧ w.cell? ⟨g, 4, none⟩ = some (.int .i64 n.size) ∧ w.frozen? ⟨g, 4, none⟩ = false ∧
      Nodes (w.setCell ⟨g, 4, none⟩ (.int .i64 z)) (.slice (some ⟨g, 0, none⟩) (T.length + 1) c) ({ n with size := z } :: T) := by
  rcases h.2 with ⟨_, h0⟩ | ⟨g, c, cur, rfl, hb, hg, hc, _, hcs, ht⟩
  · omega
  · have hB : Blk w g 23 cur := hg
    have hat : ∀ (j : Nat) (u : Value), (flatN (n :: T))[j]? = some u → cur[j]? = some u := fun j u hu => by
      rw [← ht, List.getElem?_take] at hu
      split at hu
      · simpa using hu
      · cases hu
    have h4 : cur[4]? = some (.int .i64 n.size) := hat 4 _ rfl
    have hlt : 4 < cur.size := (Array.getElem?_eq_some_iff.1 h4).1
    have hB2 := hB.set_ 4 (.int .i64 z)
    refine ⟨g, c, rfl, hc, hb, hB.lt, by rw [hB.cell]; exact h4, hB.frozen 4, some ⟨g, 0, none⟩, c, by simp, by simpa using hc, by rw [flatN_len], fun _ => ⟨_, rfl, hB2.lt, fun j u hu => ?_⟩⟩
    have e1 : ((⟨g, 0, none⟩ : Addr).add j) = ⟨g, j, none⟩ := by unfold Addr.add; split <;> simp_all
    rw [e1, hB2.cell]
    by_cases hj : j = 4
    · subst hj
      have : u = .int .i64 z := by simpa [flatN, cellsN] using hu.symm
      subst this
      rw [Array.getElem?_setIfInBounds_self_of_lt hlt]
    · rw [Array.getElem?_setIfInBounds_ne (by omega)]
      refine hat j u ?_
      rw [← hu]
      match j, hj with
      | 0, _ => rfl
      | 1, _ => rfl
      | 2, _ => rfl
      | 3, _ => rfl
      | 4, h => exact absurd rfl h
      | j + 5, _ => rfl
theorem take_s {α : Type} {E : List α} {k : Nat} {e : α} (he : E[k]? = some e) : E.take (k + 1) = E.take k ++ [e] := by
  obtain ⟨h, rfl⟩ := List.getElem?_eq_some_iff.1 he
  exact List.take_succ_eq_append_getElem h
theorem flat_take {L : List (List Nd)} {k : Nat} {T : List Nd} (h : L[k]? = some T) : (L.take (k + 1)).flatten = (L.take k).flatten ++ T := by
  rw [take_s h]
  simp
theorem flat_le (L : List (List Nd)) (k : Nat) : (L.take k).flatten.length ≤ L.flatten.length := by
  conv => rhs; rw [← List.take_append_drop k L]
  rw [List.flatten_append, List.length_append]
  omega
set_option maxRecDepth 100000 in
set_option maxHeartbeats 1000000 in
theorem made_any (n : Nd) (v : Value) (L : List (List Nd)) (w : World) (h : Trees w v L) (hl : L.length ≤ 100) (hf : L.flatten.length ≤ 100) :
    Calls Try.prog 4 #[aggN n, v] w (MadeTo w (mk n L)) := by
  obtain ⟨i23, hi23, hz23, hz23', hz23''⟩ := info_parts info_N
  have HT := Lib.hid h
  obtain ⟨A, c, us, rfl, hc, hr, hk⟩ := h
  have HR := Lib.hid hr
  have HK := Lib.hid hk
  have HF := Lib.hid hf
  clear hr hk hf
  unfold aggN
  go_enter Try.func4, Try.ntmps4
  go_wp2_with fail
  go_loopw [5, 6] (fun out i wr => ∃ k : Nat, k ≤ L.length ∧ i = .int .i64 k ∧ wr.ownsRow w.heap.size 23 5 out ((L.take k).flatten.length + 1) (flatN (n :: (L.take k).flatten)) ∧ Below w.heap.size w wr) (fun _ i _ => L.length - (intOf i).toNat)
  case atStart =>
    refine ⟨0, by omega, rfl, ?_, ((Below.refl _ _).alloc (Nat.le_refl _) _).alloc (by simp) _⟩
    have := World.ownsRow_lit (base := w.heap.size) (e := 23) (size := 5) (w.alloc (.cells #[.int .i64 n.kind, .int .i64 n.op, .string n.text, .int .i64 n.flag, .int .i64 n.size] 23)) #[.int .i64 n.kind, .int .i64 n.op, .string n.text, .int .i64 n.flag, .int .i64 n.size] 1 (by simp) (by simp [maxLen]) (by rfl)
    simpa [flatN, cellsN] using this
  case round =>
    obtain ⟨k, hk, rfl, ho, hb⟩ := hrel
    have hs := hb.size
    have HB := Lib.hid hb
    have HLt := Lib.hid ho.lt
    by_cases hlt : k < L.length
    · obtain ⟨T, hTk⟩ : ∃ T, L[k]? = some T := ⟨_, List.getElem?_eq_getElem hlt⟩
      have hfs : (L.take (k + 1)).flatten = (L.take k).flatten ++ T := flat_take hTk
      have hfl := flat_le L (k + 1)
      rw [hfs, List.length_append] at hfl
      obtain ⟨F, hF⟩ : ∃ F, F = (L.take k).flatten := ⟨_, rfl⟩
      rw [← hF] at ho hfs hfl
      have HO := Lib.hid ho
      have HFS := Lib.hid hfs
      have hfl4 : F.length + T.length ≤ 100 := by have := HF.out; omega
      obtain ⟨u, hu, hnodes⟩ := HK.out k T hTk
      obtain ⟨ad, u', hA, hbk, hu', hcell⟩ := HR.out.at_ hlt
      subst hA
      rw [hu] at hu'
      injection hu' with hu'
      subst hu'
      have e0 := (HB.out.cell (p := ad.add k) (by rw [block_of_add]; exact hbk)).trans hcell
      have hnw := hnodes.below HB.out
      obtain ⟨A2, c2, rfl, hc2, hr2⟩ := hnw
      have HR2 := Lib.hid hr2
      have k0 : (0 : Int) ≤ (k : Int) := by omega
      have k1 : (k : Int) < (L.length : Int) := by omega
      clear hu hcell hnodes hr2 hTk hfs hfl ho hb hF
      go_wp2_with (at_builtin; refine wpList_append_any _ rfl (.tmp 15) (.tmp 19) _ rfl w.heap.size 23 i23 _ 5 48 Try.underlying24 hi23 hz23 hz23' hz23'' rfl (by omega) u5 (F.length + 1) (flatN (n :: F)) rfl HO.out wr.heap.size A2 T.length c2 (flatN T) rfl HR2.out (flatN_one T) (by simp only [maxLen]; omega) (by omega) hs ?_; intro v4 w4 hown4 hg4 hat4)
      have HN : Hid (w4.ownsRow w.heap.size 23 5 v4 ((L.take (k + 1)).flatten.length + 1) (flatN (n :: (L.take (k + 1)).flatten))) := by
        rw [HFS.out, ← List.cons_append, flatN_append, List.length_append, show F.length + T.length + 1 = F.length + 1 + T.length by omega]
        exact hown4
      have HB4 : Hid (Below w.heap.size w w4) := HB.out.grown hg4 hs (fun a ha => (HLt.out a ha).1)
      clear hown4 hg4 hat4
      go_wp2
      go_roundw
      case rel => exact ⟨k + 1, by omega, by go_num, HN.out, HB4.out⟩
      case measure => simp [intOf]; omega
    · obtain rfl : k = L.length := by omega
      have hfl := HF.out
      rw [List.take_length] at ho
      obtain ⟨F, hF⟩ : ∃ F, F = L.flatten := ⟨_, rfl⟩
      have hmk : mk n L = { n with size := (F.length : Int) + 1 } :: F := by
        unfold mk
        rw [hF]
      have HMK := Lib.hid hmk
      clear hmk
      rw [← hF] at ho hfl
      obtain ⟨g, c4, rfl, hc4, hbg, hgl, hce, hfz, hnd⟩ := root_set ho ((F.length : Int) + 1)
      have HN := Lib.hid hnd
      have HBg := Lib.hid hbg
      clear ho hnd hF hb
      go_wp2
      go_ret
      exact ⟨.slice (some ⟨g, 0, none⟩) (F.length + 1) c4, rfl, by rw [HMK.out]; exact HN.out, HB.out.setCell HBg.out _⟩
end Go.Proofs.Ytionkdlcagikaaa
