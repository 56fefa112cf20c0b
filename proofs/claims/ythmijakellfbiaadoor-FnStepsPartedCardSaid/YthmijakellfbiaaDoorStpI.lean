/-
  Steps turned into the package's own. Conditions: none.
-/
import Derived.Test.YthmijakellfbiaaDoorStpD
import Derived.Deep.AppendLies
namespace Go.Proofs.YthmijakellfbiaaDoor
open Go.RowKit
set_option linter.unusedVariables false
set_option linter.unusedSimpArgs false

/-- How a field is seen, in the package's numbers. -/
def hv (n : Int) : Int := if n = 0 then 1 else if n = 1 then 0 else 2
theorem hides_any (n : Int) (w : World) (h0 : 0 ≤ n) (h2 : n ≤ 2) : Calls Tryd.prog 21 #[.int .i64 n] w fun e w' => e = .returned (.tuple #[.int .i64 (hv n), .bool true]) ∧ w = w' := by
  have h : n = 0 ∨ n = 1 ∨ n = 2 := by omega
  rcases h with rfl | rfl | rfl
  all_goals
    clear h0 h2
    go_enter Tryd.func21, Tryd.ntmps21
    go_wp2
    go_ret2
    exact ⟨rfl, rfl⟩
def cv (e : St) : St := { e with hides := e.hides.map hv }
def Okst (e : St) : Prop := e.hides.length = e.names.length ∧ e.names.length ≤ 12 ∧ ∀ h ∈ e.hides, 0 ≤ h ∧ h ≤ 2
def FewE (E : List St) : Prop := E.length ≤ 12 ∧ ∀ (k : Nat) (e : St), E[k]? = some e → Okst e

theorem own_mono {w : World} {base base' : Nat} {t : TypeId} {size n : Nat} {v : Value} {xs : List Value} (h : w.ownsRow base t size v n xs) (hb : base' ≤ base) : w.ownsRow base' t size v n xs := by
  refine ⟨h.1, ?_⟩
  rcases h.2 with h0 | ⟨g, cap, cur, h1, h2, h3⟩
  · exact .inl h0
  · exact .inr ⟨g, cap, cur, h1, Nat.le_trans hb h2, h3⟩
theorem ints_of_own {w : World} {base : Nat} {t : TypeId} {v : Value} {l : List Int} (h : w.ownsRow base t 1 v l.length (ints l)) : Ints w v l := by
  obtain ⟨A, c, rfl, hc⟩ := own_form h
  exact ⟨A, c, rfl, hc, Reads.of_own h⟩
/-- The package's steps, in a row of the call's own. -/
def IKids (w wr : World) (base : Nat) (R : List (List Value)) (E : List St) : Prop :=
  R.length = E.length ∧ ∀ (k : Nat) (e : St) (r : List Value), E[k]? = some e → R[k]? = some r → ∃ u v, r = cellsC e u v ∧ Lines w u e.names ∧ wr.ownsRow base 3 1 v e.hides.length (ints e.hides)
theorem IKids.nil (w wr : World) (base : Nat) : IKids w wr base [] [] := ⟨rfl, fun k e r h => by simp at h⟩
theorem IKids.below {w wr wr' : World} {base : Nat} {R : List (List Value)} {E : List St} (h : IKids w wr base R E) (hb : Below wr.heap.size wr wr') : IKids w wr' base R E :=
  ⟨h.1, fun k e r he hr => by
    obtain ⟨u, v, e1, h1, h2⟩ := h.2 k e r he hr
    exact ⟨u, v, e1, h1, ownsRow_below h2 hb⟩⟩
theorem IKids.grown {w wr wr' : World} {base base' n : Nat} {o : Value} {xs : List Value} {R : List (List Value)} {E : List St} (h : IKids w wr base R E) (ho : wr.ownsRow base' 48 4 o n xs) (hg : wr.grownBy wr' o.ownBlock) : IKids w wr' base R E :=
  ⟨h.1, fun k e r he hr => by
    obtain ⟨u, v, e1, h1, h2⟩ := h.2 k e r he hr
    exact ⟨u, v, e1, h1, h2.kept hg (own_ne h2 ho (by decide))⟩⟩
theorem IKids.snoc {w wr : World} {base : Nat} {R : List (List Value)} {E : List St} (h : IKids w wr base R E) {e : St} {u v : Value} (hu : Lines w u e.names) (hv : wr.ownsRow base 3 1 v e.hides.length (ints e.hides)) : IKids w wr base (R ++ [cellsC e u v]) (E ++ [e]) := by
  refine ⟨by simp [h.1], fun k e' r he hr => ?_⟩
  have h1 := h.1
  by_cases hk : k < E.length
  · rw [List.getElem?_append_left hk] at he
    rw [List.getElem?_append_left (by omega)] at hr
    exact h.2 k e' r he hr
  · have hl : k = E.length := by
      have := (List.getElem?_eq_some_iff.1 he).1
      simp at this
      omega
    subst hl
    rw [← h1] at hr
    simp at he hr
    subst he hr
    exact ⟨u, v, rfl, hu, hv⟩
theorem IKids.kids {w wr : World} {base : Nat} {R : List (List Value)} {E : List St} (h : IKids w wr base R E) (hb : Below w.heap.size w wr) : Kids cellsC wr R E :=
  ⟨h.1, fun k e r he hr => by
    obtain ⟨u, v, e1, h1, h2⟩ := h.2 k e r he hr
    exact ⟨u, v, e1, h1.below hb, ints_of_own h2⟩⟩
theorem IKids.flat {w wr : World} {base : Nat} {R : List (List Value)} {E : List St} (h : IKids w wr base R E) : R.flatten.length = E.length * 4 := by
  rw [flat4_len (fun r hr => ?_), h.1]
  obtain ⟨k, hk, rfl⟩ := List.mem_iff_getElem.1 hr
  have hE : k < E.length := by have := h.1; omega
  obtain ⟨u, v, e, _, _⟩ := h.2 k _ _ (List.getElem?_eq_getElem hE) (List.getElem?_eq_getElem hk)
  rw [e]; rfl
theorem info_int : (Tryd.prog.info? 3).map (fun i => (i.zero, i.size, i.bytes)) = some (some (.int .i64 0), 1, 8) := by kernel_rfl
theorem info_C : (Tryd.prog.info? 48).map (fun i => (i.zero, i.size, i.bytes)) = some (some (.agg #[.string ⟨#[]⟩, .slice none 0 0, .slice none 0 0, .bool false]), 4, 72) := by kernel_rfl
/-- What the rounds have made. -/
def ChI (w wr : World) (E : List St) (k : Nat) (out : Value) : Prop := ∃ R, wr.ownsRow w.heap.size 48 4 out k R.flatten ∧ IKids w wr w.heap.size R ((E.take k).map cv) ∧ Below w.heap.size w wr
theorem ChI.nil (w : World) (E : List St) : ChI w w E 0 (.slice none 0 0) := ⟨[], World.ownsRow_nil _ _ _ _, IKids.nil _ _ _, Below.refl _ _⟩
/-- One round more. -/
theorem ChI.step {w wr W4 W5 : World} {E : List St} {k : Nat} {out out' u v : Value} {e : St} {R : List (List Value)} (ho : wr.ownsRow w.heap.size 48 4 out k R.flatten) (hk : IKids w wr w.heap.size R ((E.take k).map cv)) (hbw : Below w.heap.size w wr) (he : E[k]? = some e) (hu : Lines w u e.names)
    (hb : Below wr.heap.size wr W4) (hv : W4.ownsRow wr.heap.size 3 1 v e.hides.length (ints (e.hides.map hv)))
    (ho' : W5.ownsRow w.heap.size 48 4 out' (k + 1) (R.flatten ++ cellsC (cv e) u v)) (hg : W4.grownBy W5 out.ownBlock) : ChI w W5 E (k + 1) out' := by
  have hlt : k < E.length := (List.getElem?_eq_some_iff.1 he).1
  have hE : E.take (k + 1) = E.take k ++ [e] := by
    rw [List.take_succ_eq_append_getElem hlt]
    have := (List.getElem?_eq_some_iff.1 he).2
    rw [this]
  have ho4 := ownsRow_below ho hb
  refine ⟨R ++ [cellsC (cv e) u v], ?_, ?_, ?_⟩
  · rw [flat4_snoc]
    exact ho'
  · rw [hE, List.map_append, List.map_singleton]
    exact IKids.grown ((hk.below hb).snoc (e := cv e) hu (own_mono (by simpa [cv] using hv) hbw.size)) ho4 hg
  · exact (hbw.trans (hb.mono hbw.size)).grown hg (by have := hb.size; have := hbw.size; omega) (fun a ha => (ho4.lt a ha).1)
theorem ints_snoc (l : List Int) (n : Int) : ints (l ++ [n]) = ints l ++ [.int .i64 n] := by simp [ints]
theorem ints_one (l : List Int) : ∀ u ∈ ints l, u.oneCell' = true := by
  intro u hu
  simp only [ints, List.mem_map] at hu
  obtain ⟨s, _, rfl⟩ := hu
  rfl
theorem own_set {w : World} {base n size : Nat} {t : TypeId} {v : Value} {xs : List Value} (h : w.ownsRow base t size v n xs) {p : Addr} (hne : v.ownBlock ≠ some p.block) (u : Value) : (w.setCell p u).ownsRow base t size v n xs :=
  h.kept (row := some p.block) ⟨rfl, rfl, rfl, by simp [World.setCell], fun i hi hn => Below.heap_setCell w p u i (fun e => hn (by rw [e]))⟩ (.inr hne)
def ChIt (w : World) (E : List St) (e : Ending) (w' : World) : Prop := ∃ A c, e = .returned (.tuple #[.slice A E.length c, .bool true]) ∧ Sts cellsC w' A (E.map cv) ∧ Below w.heap.size w w'
theorem take_map_snoc {l : List Int} {j : Nat} {n : Int} (h : l[j]? = some n) : (l.take (j + 1)).map hv = (l.take j).map hv ++ [hv n] := by
  have hj := (List.getElem?_eq_some_iff.1 h).1
  rw [List.take_succ_eq_append_getElem hj, List.map_append, (List.getElem?_eq_some_iff.1 h).2]
  rfl

set_option maxRecDepth 100000 in
set_option maxHeartbeats 2000000 in
theorem ichain_any (A : Option Addr) (c : Nat) (E : List St) (w : World) (h : Sts cellsS w A E) (hE : FewE E) : Calls Tryd.prog 15 #[.slice A E.length c] w (ChIt w E) := by
  obtain ⟨i3, hi3, hz3, hz3', hz3''⟩ := info_parts info_int
  obtain ⟨i48, hi48, hz48, hz48', hz48''⟩ := info_parts info_C
  have hE1 := hE.1
  have HE := Lib.hid hE.2
  have HR := Lib.hid h
  clear hE h
  go_enter Tryd.func15, Tryd.ntmps15
  go_wp2
  go_loopw [4, 14] (fun out i wr => ∃ k : Nat, k ≤ E.length ∧ i = .int .i64 k ∧ ChI w wr E k out) (fun _ i _ => E.length - (intOf i).toNat)
  case atStart => exact ⟨0, by omega, rfl, ChI.nil w E⟩
  case round =>
    obtain ⟨k, hk, rfl, hch⟩ := hrel
    obtain ⟨wo, rfl⟩ : ∃ wo : World, wo = wr := ⟨_, rfl⟩
    obtain ⟨R, ho, hik, hbw⟩ := hch
    have HO := Lib.hid ho
    have HIK := Lib.hid hik
    have hsz := hbw.size
    clear ho hik
    by_cases hlt : k < E.length
    · obtain ⟨e, he⟩ : ∃ e, E[k]? = some e := ⟨_, List.getElem?_eq_getElem hlt⟩
      obtain ⟨ad, u, v, rfl, hb, hu, hv, hc⟩ := HR.out k e he
      have hok := HE.out k e he
      obtain ⟨g0, g1, g2, g3⟩ := four_of hc
      have h0 := cell_below g0 hbw
      have h1 := cell_below g1 hbw
      have h2 := cell_below g2 hbw
      have h3 := cell_below g3 hbw
      have HEk := Lib.hid he
      have HU := Lib.hid hu
      obtain ⟨is_, rem, ns, hs⟩ := e
      obtain ⟨hl, hn12, hrg⟩ := hok
      have HRg := Lib.hid hrg
      obtain ⟨A', c', rfl, -, -⟩ := hu
      obtain ⟨A2, c2, rfl, -, hr2⟩ := hv
      simp only at hl hn12 h0 h1 h2 h3 hr2
      have HR2 := Lib.hid (hr2.below hbw)
      have HL := Lib.hid hl
      rw [hl] at h3
      have hE12 : E.length ≤ 12 := by omega
      clear he hc hr2 hb g0 g1 g2 g3 hl hrg
      go_wp2
      go_loopw [35] (fun i wr => ∃ (j : Nat) (x : Value), j ≤ ns.length ∧ i = .int .i64 j ∧ Below wo.heap.size wo wr ∧ wo.heap.size + 2 ≤ wr.heap.size ∧ Blk wr (wo.heap.size + 1) 48 #[.string rem, .slice A' ns.length c', x, .bool is_] ∧ wr.ownsRow wo.heap.size 3 1 x j (ints ((hs.take j).map hv))) (fun i _ => ns.length - (intOf i).toNat)
      case atStart => exact ⟨0, _, by omega, rfl, ((Below.refl _ _).alloc (Nat.le_refl _) _).alloc (by simp) _, by simp, Blk.new_at (by simp), World.ownsRow_nil _ _ _ _⟩
      case round =>
        obtain ⟨j, x, hj, rfl, hb2, hs2, hbx, hx⟩ := hrel
        obtain ⟨wi, rfl⟩ : ∃ wi : World, wi = wr := ⟨_, rfl⟩
        have HB2 := Lib.hid hb2
        have HX := Lib.hid hx
        have HBX := Lib.hid hbx
        have HXlt := Lib.hid hx.lt
        have y0 : wi.cell? ⟨wo.heap.size + 1, 0, none⟩ = some (.string rem) := hbx.cell 0
        have y1 : wi.cell? ⟨wo.heap.size + 1, 1, none⟩ = some (.slice A' ns.length c') := hbx.cell 1
        have y2 : wi.cell? ⟨wo.heap.size + 1, 2, none⟩ = some x := hbx.cell 2
        have y3 : wi.cell? ⟨wo.heap.size + 1, 3, none⟩ = some (.bool is_) := hbx.cell 3
        obtain ⟨Ax, cx, rfl, -⟩ := own_form hx
        by_cases hlj : j < ns.length
        · obtain ⟨ad2, n, rfl, hbb, hn, hcc⟩ := HR2.out.int_ (k := j) (by have := HL.out; omega)
          have e2 := cell_below hcc hb2
          have hnr := HRg.out n (List.mem_of_getElem? hn)
          obtain ⟨hn0, hn2⟩ := hnr
          have HN := Lib.hid hn
          have hf2 : wi.frozen? ⟨wo.heap.size + 1, 2, none⟩ = false := hbx.frozen 2
          clear hb2 hbx hx hn hcc hbb
          go_wp2_with (first | (go_at_call 21; refine (hides_any n _ hn0 hn2).mono ?_; rintro e' w' ⟨rfl, rfl⟩) | ((at_builtin; refine wpList_append_lies _ rfl (.tmp 47) (.tmp 49) _ rfl wo.heap.size 3 i3 _ 1 8 Tryd.underlying24 hi3 hz3 hz3' hz3'' rfl (by omega) (.slice Ax j cx) j (ints ((hs.take j).map hv)) rfl (HX.out.alloc _) ⟨wi.heap.size, 0, none⟩ 1 1 [.int .i64 (hv n)] rfl rfl (news_at _ _ _ _ (by simp)) (by simp [Value.oneCell']) (by omega) (by simp only [maxLen]; omega) (by omega) (by simp; omega) (wi.heap.size + 1) (by simp) ?_; intro g4 cap4 w4 hown4 hg4 hat4 hlt4); have hbx4 := (HBX.out.alloc (.cells #[.int .i64 (hv n)] 3)).grown hg4 (Ne.symm (own_blk_ne HX.out HBX.out (by decide))); have z2 : w4.cell? ⟨wo.heap.size + 1, 2, none⟩ = some (.slice Ax j cx) := hbx4.cell 2; have zf : w4.frozen? ⟨wo.heap.size + 1, 2, none⟩ = false := hbx4.frozen 2; have HBX4 := Lib.hid hbx4; have HOW4 := Lib.hid hown4; have hs4 := hg4.size; simp at hs4; have HB4 := Lib.hid ((HB2.out.alloc (by omega) (.cells #[.int .i64 (hv n)] 3)).grown hg4 (by simp; omega) (fun a ha => (HXlt.out a ha).1)); clear hbx4 hown4 hg4 hat4 hlt4))
          go_wp2
          go_roundw
          case rel =>
            refine ⟨j + 1, _, by omega, by go_num, HB4.out.setCell (by simp) _, by simp; omega, HBX4.out.set_ 2 _, ?_⟩
            rw [take_map_snoc HN.out, ints_snoc]
            exact own_set HOW4.out (own_blk_ne HOW4.out HBX4.out (by decide)) _
          case measure => simp [intOf]; omega
        · obtain rfl : j = ns.length := by omega
          have HS2 := Lib.hid hs2
          rw [List.take_of_length_le (by have := HL.out; omega)] at hx
          have HX2 := Lib.hid hx
          have HO4 := Lib.hid (ownsRow_below HO.out hb2)
          clear hb2 hbx hx HX HBX
          go_wp2_with (at_builtin; refine wpList_append_lies _ rfl (.tmp 53) (.tmp 55) _ rfl w.heap.size 48 i48 _ 4 72 Tryd.underlying38 hi48 hz48 hz48' hz48'' rfl (by omega) u4 k R.flatten rfl (HO4.out.alloc _) ⟨wi.heap.size, 0, none⟩ 1 1 [.string rem, .slice A' ns.length c', .slice Ax ns.length cx, .bool is_] rfl rfl (news_at _ _ _ _ (by simp)) (by simp [Value.oneCell']) (by omega) (by simp only [maxLen]; omega) (by omega) (by simp; omega) (wi.heap.size + 1) (by simp) ?_; intro g5 cap5 w5 hown5 hg5 hat5 hlt5)
          have HN : Hid (ChI w w5 E (k + 1) (.slice (some ⟨g5, 0, none⟩) (k + 1) cap5)) := ChI.step HO.out HIK.out hbw HEk.out HU.out (HB2.out.alloc (by omega) _) (by
            have := HX2.out.alloc (.cells #[.string rem, .slice A' ns.length c', .slice Ax ns.length cx, .bool is_] 48)
            show World.ownsRow _ _ _ _ _ hs.length _
            rw [HL.out]
            exact this) hown5 hg5
          clear hown5 hg5 hat5 hlt5
          go_wp2
          go_roundw
          case rel => exact ⟨k + 1, by omega, by go_num, HN.out⟩
          case measure => simp [intOf]; omega
    · obtain rfl : k = E.length := by omega
      go_wp2
      go_ret2
      have hk' := HIK.out
      have ho := HO.out
      have hbw' := hbw
      rw [List.take_length] at hk'
      have hkl : E.length = (E.map cv).length := by simp
      rw [hkl] at ho
      obtain ⟨A', c', rfl, hc', hs⟩ := Kids.sts cellsC_four ho (hk'.kids hbw')
      exact ⟨A', c', by simp, hs, hbw'⟩
end Go.Proofs.YthmijakellfbiaaDoor
