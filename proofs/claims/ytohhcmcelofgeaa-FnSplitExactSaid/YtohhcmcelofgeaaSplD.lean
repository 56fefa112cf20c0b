/-
  spec.Split: the parts of a list of code points. Conditions: none.
-/
import Derived.Test.YtohhcmcelofgeaaSplC
namespace Go.Proofs.Ytohhcmcelofgeaa
open Go.RowKit
set_option linter.unusedVariables false
set_option linter.unusedSimpArgs false

section
variable {P : Program} {w : World} {B : Nat} {A : Option Addr} {n c k m : Nat} {vs : List Value}
theorem cut_tail (T : TypeId) (ht : P.underlying T = some (.slice (P.elem T))) (hs : ∀ W, (sizeOf (P.elem T)).run P W = .ok 1 W) (h : Reads w B 1 A n vs) (hk : k ≤ n) (hc : n ≤ c) (kd : IntKind) :
    ∃ A', Reads w B 1 A' (n - k) (vs.drop k) ∧ ∀ W, (Instr.sliceAt T (.slice A n c) (some (.int kd (k : Nat))) none none).run P W = .ok (.slice A' (n - k) (c - k)) W := by
  refine ⟨_, by simpa using h.cut hk hc, fun W => ?_⟩
  rw [run_sliceAt_slice W T _ _ _ _ ht, run_slice_l W T A n c ht kd (k : Int) (by omega) (by omega), hs]
  simp [sliced, Result.andThen]
theorem cut_mid (T : TypeId) (ht : P.underlying T = some (.slice (P.elem T))) (hs : ∀ W, (sizeOf (P.elem T)).run P W = .ok 1 W) (h : Reads w B 1 A n vs) (hk : k ≤ m) (hm : m ≤ n) (hc : n ≤ c) (kd : IntKind) :
    ∃ A', Reads w B 1 A' (m - k) ((vs.drop k).take (m - k)) ∧ ∀ W, (Instr.sliceAt T (.slice A n c) (some (.int kd (k : Nat))) (some (.int kd (m : Nat))) none).run P W = .ok (.slice A' (m - k) (c - k)) W := by
  have hcut := h.cut (show k ≤ n by omega) hc
  rw [Nat.mul_one] at hcut
  refine ⟨if c = k then A else A.map (·.add k), ⟨by rw [List.length_take, hcut.1]; omega, fun hn => ?_⟩, fun W => ?_⟩
  · obtain ⟨ad, e, hb, hcell⟩ := hcut.2 (by omega)
    refine ⟨ad, e, hb, fun j u hu => ?_⟩
    rw [List.getElem?_take] at hu
    split at hu
    · exact hcell j u hu
    · cases hu
  · rw [run_sliceAt_slice W T _ _ _ _ ht, run_slice_lh W T A n c ht kd kd (k : Int) (m : Int) (by omega) (by omega) (by omega), hs]
    simp [sliced, Result.andThen]
end
theorem size_int (W : World) : (sizeOf (Try.prog.elem 22)).run Try.prog W = .ok 1 W := by kernel_rfl

/-! ### standsAt -/
def CellsAt (w : World) (g : Nat) (x : List Nat) : Prop := ∀ j, j < x.length → w.cell? ⟨g, j, none⟩ = some (.int .i64 (rune x j))
theorem CellsAt.drewN {w : World} {g : Nat} {x : List Nat} (h : CellsAt w g x) (n : Nat) : CellsAt (w.drewN n) g x := h
def Stands (x : List Nat) (k : Nat) (y : List Nat) : Prop := ∀ j, j < y.length → rune x (k + j) = rune y j
theorem at_stands {x y : List Nat} {k : Nat} (h : k + y.length ≤ x.length) : At y x k ↔ Stands x k y := by
  have key : ∀ j, j < y.length → (rune x (k + j) = rune y j ↔ x[k + j]? = y[j]?) := fun j hj => by
    unfold rune
    simp only [List.getD_eq_getElem?_getD, List.getElem?_eq_getElem (show k + j < x.length by omega), List.getElem?_eq_getElem hj, Option.getD_some, Option.some.injEq]
    omega
  constructor
  · rintro ⟨_, h2⟩ j hj
    rw [key j hj]
    conv => rhs; rw [← h2]
    rw [List.getElem?_take, if_pos hj, List.getElem?_drop]
  · intro hs
    refine ⟨h, ?_⟩
    apply List.ext_getElem?
    intro j
    by_cases hj : j < y.length
    · rw [List.getElem?_take, if_pos hj, List.getElem?_drop]
      exact (key j hj).1 (hs j hj)
    · rw [List.getElem?_eq_none (by simp; omega), List.getElem?_eq_none (by omega)]
def StandTo (w : World) (b : Bool) (e : Ending) (w' : World) : Prop := e = .returned (.bool b) ∧ ∃ n, w' = w.drewN n
set_option maxHeartbeats 1000000 in
set_option maxRecDepth 100000 in
theorem stands_any (g g' cap cap' : Nat) (x y : List Nat) (k : Nat) (w : World) (hx : x.length ≤ 10000) (hy : y.length ≤ 10000) (hk : k ≤ x.length) (ha : CellsAt w g x) (hb : CellsAt w g' y) :
    Calls Try.prog 18 #[.slice (some ⟨g, 0, none⟩) x.length cap, .int .i64 k, .slice (some ⟨g', 0, none⟩) y.length cap'] w (StandTo w (AtB y x k)) := by
  have HA := Lib.hid ha
  have HB := Lib.hid hb
  clear ha hb
  by_cases hf : k + y.length ≤ x.length
  · have z1 : ¬ (x.length : Int) < (k : Int) + (y.length : Int) := by omega
    go_enter Try.func18, Try.ntmps18
    go_wp2
    go_loopw [7] (fun i wr => ∃ m n : Nat, m ≤ y.length ∧ i = .int .i64 m ∧ Hid (∀ j, j < m → rune x (k + j) = rune y j) ∧ wr = w.drewN n) (fun i _ => y.length - (intOf i).toNat)
    case atStart => exact ⟨0, 0, by omega, rfl, fun j h => absurd h (by omega), rfl⟩
    case round =>
      obtain ⟨m, n, hm, rfl, hall, rfl⟩ := hrel
      by_cases hlt : m < y.length
      · have hc1 := HA.out (k + m) (by omega)
        have hc2 := HB.out m hlt
        have i1 : IntKind.i64.wrap ((k : Int) + (m : Int)) = (k : Int) + (m : Int) := by rw [IntKind.wrap_i64]; omega
        have i2 : (0 : Int) ≤ (k : Int) + (m : Int) := by omega
        have i3 : (k : Int) + (m : Int) < (x.length : Int) := by omega
        have i4 : ((k : Int) + (m : Int)).toNat = k + m := by omega
        have i5 : (m : Int) < (y.length : Int) := by omega
        by_cases he : rune x (k + m) = rune y m
        · have hq : (rune x (k + m) != rune y m) = false := by simp [he]
          have HN : Hid (∀ j, j < m + 1 → rune x (k + j) = rune y j) := fun j hj => by
            by_cases e : j = m
            · subst e; exact he
            · exact hall.out j (by omega)
          clear he
          go_wp2
          go_quiet (fail)
          clear i1 i4
          go_wp2
          go_roundw
          case rel => exact ⟨m + 1, _, by omega, by go_num, HN.out, rfl⟩
          case measure => simp [intOf]; omega
        · have hq : (rune x (k + m) != rune y m) = true := by simp [he]
          have HN : Hid (AtB y x k = false) := by
            show _ = _
            rw [Bool.eq_false_iff]
            intro h
            exact he ((at_stands hf).1 (atB_iff.1 h) m hlt)
          clear he
          go_wp2
          go_quiet (fail)
          clear i1 i4
          go_wp2
          go_ret
          refine ⟨by rw [HN.out]; rfl, ?_⟩
          simp only [World.drewN_drewN]
          exact ⟨_, rfl⟩
      · have HN : Hid (AtB y x k = true) := by
          show _ = _
          exact atB_iff.2 ((at_stands hf).2 fun j hj => hall.out j (by omega))
        go_wp2
        go_ret
        exact ⟨by rw [HN.out]; rfl, n, rfl⟩
  · have z1 : (x.length : Int) < (k : Int) + (y.length : Int) := by omega
    have HN : Hid (AtB y x k = false) := by
      show _ = _
      rw [Bool.eq_false_iff]
      intro h
      exact hf (atB_iff.1 h).1
    go_enter Try.func18, Try.ntmps18
    go_wp2
    go_ret
    exact ⟨by rw [HN.out]; rfl, 0, rfl⟩

/-! ### Split -/
theorem at_drop {u l : List Nat} {f a : Nat} (hf : f ≤ a) (ha : a ≤ l.length) : At u l a ↔ At u (l.drop f) (a - f) := by
  unfold At
  rw [List.length_drop, List.drop_drop, show f + (a - f) = a by omega]
  constructor
  · rintro ⟨h1, h2⟩; exact ⟨by omega, h2⟩
  · rintro ⟨h1, h2⟩; exact ⟨by omega, h2⟩
theorem info_ints : (Try.prog.info? 22).map (fun i => (i.zero, i.size, i.bytes)) = some (some (.slice none 0 0), 1, 24) := by kernel_rfl
/-- Slices of these lists. -/
def Subs (w : World) (vs : List Value) (ps : List (List Nat)) : Prop := vs.length = ps.length ∧ ∀ (j : Nat) (v : Value) (p : List Nat), vs[j]? = some v → ps[j]? = some p → ∃ A c, v = .slice A p.length c ∧ Nums w A p
theorem Subs.nil (w : World) : Subs w [] [] := ⟨rfl, fun j v p h => by simp at h⟩
theorem Subs.snoc {w : World} {vs : List Value} {ps : List (List Nat)} {v : Value} {p : List Nat} (h : Subs w vs ps) (k : ∃ A c, v = .slice A p.length c ∧ Nums w A p) : Subs w (vs ++ [v]) (ps ++ [p]) := by
  refine ⟨by simp [h.1], fun j v' p' a b => ?_⟩
  have hl := h.1
  by_cases hj : j < vs.length
  · rw [List.getElem?_append_left hj] at a
    rw [List.getElem?_append_left (by omega)] at b
    exact h.2 j v' p' a b
  · rw [List.getElem?_append_right (by omega)] at a
    rw [List.getElem?_append_right (by omega)] at b
    have : j = vs.length := by
      have := (List.getElem?_eq_some_iff.1 a).1
      simp at this
      omega
    subst this
    rw [← hl] at b
    simp at a b
    subst a b
    exact k
theorem Subs.below {w w' : World} {vs : List Value} {ps : List (List Nat)} (h : Subs w vs ps) (hb : Below w.heap.size w w') : Subs w' vs ps :=
  ⟨h.1, fun j v p a b => by
    obtain ⟨A, c, e, hn⟩ := h.2 j v p a b
    exact ⟨A, c, e, hn.below hb⟩⟩
structure Cut (u l : List Nat) (M f a : Nat) (ps : List (List Nat)) : Prop where
  le1 : f ≤ a
  le2 : a ≤ l.length
  all : ps ++ parts u (M - ps.length) (l.drop f) = parts u M l
  leM : ps.length ≤ M
  lef : ps.length ≤ f
  no : ps.length < M → ∀ j, j < a - f → ¬ At u (l.drop f) j
theorem Cut.skip {u l : List Nat} {M f a : Nat} {ps : List (List Nat)} (h : Cut u l M f a ps) (ha : a < l.length) (hn : ps.length < M → ¬ At u l a) : Cut u l M f (a + 1) ps :=
  ⟨by have := h.le1; omega, by omega, h.all, h.leM, h.lef, fun hM j hj => by
    by_cases e : j = a - f
    · subst e
      exact fun hat => hn hM ((at_drop h.le1 h.le2).2 hat)
    · exact h.no hM j (by have := h.le1; omega)⟩
theorem Cut.go {u l : List Nat} {M f a : Nat} {ps : List (List Nat)} (h : Cut u l M f a ps) (hu : 0 < u.length) (hM : ps.length < M) (hat : At u l a) : Cut u l M (a + u.length) (a + u.length) (ps ++ [(l.drop f).take (a - f)]) := by
  have h1 := h.le1
  have h2 := hat.1
  have h3 := h.lef
  have hf : first u (l.drop f) = some (a - f) := first_some ((at_drop h.le1 h.le2).1 hat) (h.no hM)
  refine ⟨Nat.le_refl _, hat.1, ?_, by simp; omega, by simp; omega, fun _ j hj => absurd hj (by omega)⟩
  rw [← h.all, parts_some hf (by omega), List.append_assoc]
  simp only [List.length_append, List.length_singleton, List.singleton_append, List.drop_drop]
  rw [show M - ps.length - 1 = M - (ps.length + 1) by omega, show f + (a - f + u.length) = a + u.length by omega]
theorem Cut.stop {u l : List Nat} {M f : Nat} {ps : List (List Nat)} (h : Cut u l M f l.length ps) (hu : 0 < u.length) : ps ++ [l.drop f] = parts u M l := by
  have e : parts u (M - ps.length) (l.drop f) = [l.drop f] := by
    by_cases hM : ps.length < M
    · refine parts_none (first_none fun k hk => h.no hM k ?_ hk) _
      have := hk.1
      rw [List.length_drop] at this
      omega
    · have : M - ps.length = 0 := by omega
      rw [this]; rfl
  rw [← h.all, e]
def PartsTo (w : World) (ps : List (List Nat)) (e : Ending) (w' : World) : Prop := ∃ v vs, e = .returned v ∧ w'.ownsRow w.heap.size 22 1 v ps.length vs ∧ Subs w' vs ps ∧ Below w.heap.size w w'
theorem ints_take (l : List Nat) (k n : Nat) : ((ints l).drop k).take n = ints ((l.drop k).take n) := by simp [ints, List.map_drop, List.map_take]
theorem ints_drop (l : List Nat) (k : Nat) : (ints l).drop k = ints (l.drop k) := by simp [ints, List.map_drop]
set_option maxHeartbeats 2000000 in
set_option maxRecDepth 100000 in
theorem split_any (g g' cap cap' : Nat) (l u : List Nat) (hl : l.length ≤ 10000) (hu : u.length ≤ 10000) (hu0 : 0 < u.length) (hcap : l.length ≤ cap) (m : Int) (M : Nat) (hm : (m = -1 ∧ M = 40000) ∨ (m = M ∧ M ≤ 40000)) (w : World)
    (hg : 0 < l.length → g < w.heap.size) (hg' : g' < w.heap.size) (ha : CellsAt w g l) (hb : CellsAt w g' u) :
    Calls Try.prog 11 #[.slice (some ⟨g, 0, none⟩) l.length cap, .slice (some ⟨g', 0, none⟩) u.length cap', .int .i64 m] w (PartsTo w (parts u M l)) := by
  obtain ⟨i22, hi22, hz22, hz22', hz22''⟩ := info_parts info_ints
  have HM := Lib.hid hm
  have hR : Reads w w.heap.size 1 (some ⟨g, 0, none⟩) l.length (ints l) := by
    refine ⟨by simp [ints], fun h0 => ⟨_, rfl, hg h0, fun j v hj => ?_⟩⟩
    have hjl : j < l.length := by have := (List.getElem?_eq_some_iff.1 hj).1; simpa [ints] using this
    have := ha j hjl
    rw [show (⟨g, 0, none⟩ : Addr).add j = ⟨g, j, none⟩ by unfold Addr.add; split <;> simp_all, this]
    simp [ints, hjl, rune] at hj ⊢
    exact hj
  have HR := Lib.hid hR
  have HA : Hid (∀ W, Below w.heap.size w W → CellsAt W g l) := fun W hW j hj => (hW.cell (p := ⟨g, j, none⟩) (hg (by omega))).trans (ha j hj)
  have HB : Hid (∀ W, Below w.heap.size w W → CellsAt W g' u) := fun W hW j hj => (hW.cell (p := ⟨g', j, none⟩) hg').trans (hb j hj)
  have hmb : -1 ≤ m ∧ m ≤ 40000 := by omega
  obtain ⟨mb1, mb2⟩ := hmb
  clear hm ha hb hg hR
  go_enter Try.func11, Try.ntmps11
  go_wp2
  go_loopw [7, 8, 9] (fun out tf ta wr => ∃ (f a : Nat) (ps : List (List Nat)) (vs : List Value), tf = .int .i64 f ∧ ta = .int .i64 a ∧ Cut u l M f a ps ∧ wr.ownsRow w.heap.size 22 1 out ps.length vs ∧ Subs w vs ps ∧ Below w.heap.size w wr) (fun _ _ ta _ => l.length - (intOf ta).toNat)
  case atStart => exact ⟨0, 0, [], [], rfl, rfl, ⟨by omega, by omega, by simp, by simp, by simp, fun _ j h => absurd h (by omega)⟩, World.ownsRow_lit _ _ 0 (Nat.le_refl _) (by decide) rfl, Subs.nil _, (Below.refl _ _).alloc (Nat.le_refl _) _⟩
  case round =>
    obtain ⟨f, a, ps, vs, rfl, rfl, hcut, ho, hsub, hf⟩ := hrel
    obtain ⟨wo, rfl⟩ : ∃ wo : World, wo = wr := ⟨_, rfl⟩
    have HC := Lib.hid hcut
    have HO := Lib.hid ho
    have HOlt := Lib.hid ho.lt
    have HS := Lib.hid hsub
    have HF := Lib.hid hf
    have hsz := hf.size
    have hfa := hcut.le1
    have hal := hcut.le2
    have hpf := hcut.lef
    have hpM := hcut.leM
    have hpl : ps.length ≤ 10000 := by omega
    obtain ⟨A7, c7, rfl, hc7⟩ := own_form ho
    clear hcut ho hsub hf
    by_cases hlt : a < l.length
    · have z0 : (a : Int) < (l.length : Int) := by omega
      by_cases hM : ps.length < M
      · have hq : ((ps.length : Int) != m) = true := by have := HM.out; rw [bne_iff_ne]; omega
        have hst := stands_any g g' cap cap' l u a wo hl hu (by omega) (HA.out wo HF.out) (HB.out wo HF.out)
        have HST := Lib.hid hst
        clear hst
        cases hb : AtB u l a
        · rw [hb] at HST
          have HC2 := Lib.hid (HC.out.skip hlt (fun _ h => by rw [atB_iff.2 h] at hb; cases hb))
          clear hb
          go_wp2_with (go_at_call 18; refine HST.out.mono ?_; rintro e' w' ⟨rfl, n, rfl⟩)
          go_roundw
          case rel => exact ⟨f, a + 1, ps, vs, rfl, by go_num, HC2.out, HO.out, HS.out, ⟨HF.out.os, HF.out.tape, HF.out.output, HF.out.size, HF.out.block⟩⟩
          case measure => simp [intOf]; omega
        · rw [hb] at HST
          have hat := atB_iff.1 hb
          have hat1 := hat.1
          have HC2 := Lib.hid (HC.out.go hu0 hM hat)
          obtain ⟨A1, hr1, hs1⟩ := cut_mid (P := Try.prog) 22 Try.underlying22 size_int HR.out hfa hal hcap .i64
          rw [ints_take] at hr1
          have hpl1 : ((l.drop f).take (a - f)).length = a - f := by simp; omega
          have HR1 : Hid (∃ A c, Value.slice A1 (a - f) (cap - f) = .slice A ((l.drop f).take (a - f)).length c ∧ Nums w A ((l.drop f).take (a - f))) := ⟨A1, cap - f, by rw [hpl1], by unfold Nums; rw [hpl1]; exact hr1⟩
          clear hb hat hr1 hpl1
          go_wp2_with (first
            | (go_at_call 18; refine HST.out.mono ?_; rintro e' w' ⟨rfl, n, rfl⟩)
            | (at_builtin; refine wpList_append_lies _ rfl (.tmp 25) (.tmp 30) _ rfl w.heap.size 22 i22 _ 1 24 Try.underlying34 hi22 hz22 hz22' hz22'' rfl (by omega) (.slice A7 ps.length c7) ps.length vs rfl (show World.ownsRow _ _ _ _ _ _ _ from HO.out.alloc _) ⟨wo.heap.size, 0, none⟩ 1 1 [.slice A1 (a - f) (cap - f)] rfl rfl (news_at _ _ _ _ (by simp)) (by simp [Value.oneCell']) (by omega) (by simp only [maxLen]; omega) (by omega) (by simp; omega) (wo.heap.size + 1) (by simp) ?_; intro g2 cap2 w4 hown4 hg4 hat4 hlt4))
          have HO4 : Hid (w4.ownsRow w.heap.size 22 1 (.slice (some ⟨g2, 0, none⟩) (ps.length + 1) cap2) (ps ++ [(l.drop f).take (a - f)]).length (vs ++ [.slice A1 (a - f) (cap - f)])) := by show World.ownsRow _ _ _ _ _ _ _; rw [List.length_append]; exact hown4
          have HF4 := Lib.hid ((((⟨HF.out.os, HF.out.tape, HF.out.output, HF.out.size, HF.out.block⟩ : Below w.heap.size w (wo.drewN n))).alloc hsz _).grown hg4 (by simp; omega) (fun a ha => (HOlt.out a ha).1))
          clear hown4 hg4 hat4 hlt4
          go_wp2
          go_roundw
          case rel => exact ⟨a + u.length, a + u.length, _, _, by go_num, by go_num, HC2.out, HO4.out, HS.out.snoc HR1.out, HF4.out⟩
          case measure => simp [intOf]; omega
      · have hq : ((ps.length : Int) != m) = false := by have := HM.out; simp; omega
        have HC2 := Lib.hid (HC.out.skip hlt (fun h => absurd h hM))
        go_wp2
        go_roundw
        case rel => exact ⟨f, a + 1, ps, vs, rfl, by go_num, HC2.out, HO.out, HS.out, HF.out⟩
        case measure => simp [intOf]; omega
    · obtain rfl : l.length = a := by omega
      have HE := Lib.hid (HC.out.stop hu0)
      obtain ⟨A1, hr1, hs1⟩ := cut_tail (P := Try.prog) 22 Try.underlying22 size_int HR.out hfa hcap .i64
      rw [ints_drop] at hr1
      have hpl1 : (l.drop f).length = l.length - f := by simp
      have HR1 : Hid (∃ A c, Value.slice A1 (l.length - f) (cap - f) = .slice A (l.drop f).length c ∧ Nums w A (l.drop f)) := ⟨A1, cap - f, by rw [hpl1], by unfold Nums; rw [hpl1]; exact hr1⟩
      clear hr1 hpl1
      go_wp2_with (at_builtin; refine wpList_append_lies _ rfl (.tmp 39) (.tmp 43) _ rfl w.heap.size 22 i22 _ 1 24 Try.underlying34 hi22 hz22 hz22' hz22'' rfl (by omega) (.slice A7 ps.length c7) ps.length vs rfl (HO.out.alloc _) ⟨wo.heap.size, 0, none⟩ 1 1 [.slice A1 (l.length - f) (cap - f)] rfl rfl (news_at _ _ _ _ (by simp)) (by simp [Value.oneCell']) (by omega) (by simp only [maxLen]; omega) (by omega) (by simp; omega) (wo.heap.size + 1) (by simp) ?_; intro g2 cap2 w4 hown4 hg4 hat4 hlt4)
      have HO4 : Hid (w4.ownsRow w.heap.size 22 1 (.slice (some ⟨g2, 0, none⟩) (ps.length + 1) cap2) (parts u M l).length (vs ++ [.slice A1 (l.length - f) (cap - f)])) := by show World.ownsRow _ _ _ _ _ _ _; rw [← HE.out, List.length_append]; exact hown4
      have HF4 := Lib.hid ((HF.out.alloc hsz _).grown hg4 (by simp; omega) (fun a ha => (HOlt.out a ha).1))
      have HS4 : Hid (Subs w4 (vs ++ [.slice A1 (l.length - f) (cap - f)]) (parts u M l)) := by show Subs _ _ _; rw [← HE.out]; exact (HS.out.snoc HR1.out).below HF4.out
      clear hown4 hg4 hat4 hlt4
      go_wp2
      go_ret
      exact ⟨_, _, rfl, HO4.out, HS4.out, HF4.out⟩
end Go.Proofs.Ytohhcmcelofgeaa
