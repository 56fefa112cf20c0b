/-
  Numbers that are integers; thunks of strings; builtinSplitLimit. Conditions: none.
-/
import Derived.Test.YtohhcmcelofgeaaSplE
import Derived.Test.YtohhcmcelofgeaaFloat
namespace Go.Proofs.Ytohhcmcelofgeaa
open Go.RowKit
set_option linter.unusedVariables false
set_option linter.unusedSimpArgs false

theorem firstOf_at {u l : List Nat} : ∀ {n k : Nat}, firstOf u l n = some k → At u l k
  | 0, k, h => by simp [firstOf] at h
  | n + 1, k, h => by
    rw [firstOf] at h
    split at h
    · rename_i j hj
      injection h with h
      subst h
      exact firstOf_at hj
    · split at h
      · rename_i ha
        injection h with h
        subst h
        exact atB_iff.1 ha
      · cases h
/-! ### numbers -/
theorem int_back32 (n : Int) (h0 : -32768 ≤ n) (h : n < 32768) : floatToIntVal .f64 (floatOfInt .f64 n) .i32 = some n := by
  show floatToIntVal .f64 (FloatKind.f64.nearest n) .i32 = some n
  obtain ⟨m, i, hd, hi, hs⟩ := int_read n (by omega)
  unfold floatToIntVal
  have e : Ieee.Datum.toInt .zero (FloatKind.f64.decode (FloatKind.f64.nearest n)) = some n := by
    rw [hd, toInt_sc _ _ _ hi, hs, Int.mul_tdiv_cancel _ K_ne]
  first
  | (show (match Ieee.Datum.toInt .zero (FloatKind.f64.decode (FloatKind.f64.nearest n)) with | some x => _ | none => _) = _
     rw [e]
     simp only
     rw [if_pos]
     show -2147483648 ≤ n ∧ n ≤ 2147483647
     omega)
  | (rw [toInt_word hd]
     simp only
     rw [hs, Int.mul_tdiv_cancel _ K_ne]
     rw [if_pos]
     show -2147483648 ≤ n ∧ n ≤ 2147483647
     omega)
set_option maxRecDepth 100000 in
theorem conv_some {y : Nat} {x : Int} (h : floatToIntVal .f64 y .i32 = some x) (w : World) : (convert 32 21 (.float .f64 y)).run Try.prog w = .ok (.int .i32 x) w := by
  unfold floatToIntVal at h
  have hs : Try.prog.underlying 32 = some (.float .f64) := Try.underlying32
  split at h
  · rename_i m he
    split at h
    · rename_i hb
      injection h with h
      subst h
      simp only [convert, run_underlying hs, run_underlying Try.underlying21, Conv.floatToInt, he, Sem.run_bind, Result.andThen, if_pos hb, Sem.run_pure]
    · cases h
  · cases h
theorem int_fin (n : Int) (h : n.natAbs < 9007199254740992) : Fin (floatOfInt .f64 n) := by
  obtain ⟨m, i, hd, _⟩ := int_read n h
  exact ⟨_, _, _, hd⟩
set_option maxRecDepth 100000 in
theorem num_made (x : Nat) (w : World) : Calls Try.prog 26 #[.float .f64 x] w fun e w' =>
    e = .returned (.iface 110 (.pointer (some ⟨w.heap.size, 0, none⟩))) ∧ w' = w.alloc (.cells #[.float .f64 x] 117) := by
  go_enter Try.func26, Try.ntmps26
  go_wp2
  go_ret
  exact ⟨rfl, rfl⟩
set_option maxRecDepth 100000 in
theorem getNum_any (i : Value) (p : Nat) (w : World) : Calls Try.prog 39 #[i, .iface 110 (.pointer (some ⟨p, 0, none⟩))] w fun e w' =>
    e = .returned (.tuple #[.pointer (some ⟨p, 0, none⟩), .nilIface]) ∧ w = w' := by
  have ht : ∀ w, (Instr.typeAssert (.iface 110 (.pointer (some ⟨p, 0, none⟩))) 53 110 true).run Try.prog w = .ok (.tuple #[.pointer (some ⟨p, 0, none⟩), .bool true]) w := fun _ => by kernel_rfl
  go_enter Try.func39, Try.ntmps39
  go_wp2
  go_ret2
  exact ⟨rfl, rfl⟩
set_option maxRecDepth 100000 in
theorem getInt_any (i : Value) (p : Nat) (n : Int) (h0 : -32768 ≤ n) (hn : n < 32768) (w : World) (h : Blk w p 117 #[.float .f64 (floatOfInt .f64 n)]) : Calls Try.prog 31 #[i, .iface 110 (.pointer (some ⟨p, 0, none⟩))] w fun e w' =>
    e = .returned (.tuple #[.int .i64 n, .nilIface]) ∧ w = w' := by
  obtain ⟨y, hy⟩ : ∃ y, floatOfInt .f64 n = y := ⟨_, rfl⟩
  have hfb := fun (w : World) => conv_some (int_back32 n h0 hn) w
  have hfs : (FloatKind.f64.format.order y y != some .eq) = false := by rw [← hy, fin_self (int_fin _ (by omega))]; rfl
  rw [hy] at h hfb
  have c0 : w.cell? ⟨p, 0, none⟩ = some (.float .f64 y) := h.cell 0
  have hl := h.lt
  have hcv : ∀ w, (convert 3 32 (.int .i64 n)).run Try.prog w = .ok (.float .f64 y) w := fun w => by
    rw [← hy]
    first
    | exact run_convert_int_float w _ _ _ _ _ Try.underlying3 Try.underlying32
    | (simp only [convert, run_underlying Try.underlying3, run_underlying Try.underlying32, Sem.run_bind, Result.andThen, Sem.run_pure]; rfl)
  have Hy := Lib.hid hy
  clear h hy
  go_enter Try.func31, Try.ntmps31
  go_wp2_with (go_at_call 39; refine (getNum_any _ _ _).mono ?_; rintro e' w1 ⟨rfl, rfl⟩)
  go_ret2
  exact ⟨rfl, rfl⟩

/-! ### thunks -/
theorem ready_any (t : TypeId) (v : Value) (w : World) : Calls Try.prog 34 #[.iface t v] w fun e w' =>
    e = .returned (.pointer (some ⟨w.heap.size, 0, none⟩)) ∧ w' = w.alloc (.cells #[.pointer none, .nilIface, .iface t v, .nilIface] 100) := by
  go_enter Try.func34, Try.ntmps34
  go_wp2
  go_ret
  exact ⟨rfl, rfl⟩
def SThk (w : World) (v : Value) (l : List Nat) : Prop := ∃ (t : Nat) (s : Value), v = .pointer (some ⟨t, 0, none⟩) ∧ Blk w t 100 #[.pointer none, .nilIface, s, .nilIface] ∧ Flat w s l
theorem SThk.keep {w w' : World} {v : Value} {l : List Nat} (h : SThk w v l) (hk : StrKeep w w') : SThk w' v l := by
  obtain ⟨t, s, e, h1, h2⟩ := h
  exact ⟨t, s, e, hk _ _ _ (.inl rfl) h1, h2.keep hk⟩
def SThks (w : World) (vs : List Value) (ps : List (List Nat)) : Prop := vs.length = ps.length ∧ ∀ (j : Nat) (v : Value) (p : List Nat), vs[j]? = some v → ps[j]? = some p → SThk w v p
theorem SThks.nil (w : World) : SThks w [] [] := ⟨rfl, fun j v p h => by simp at h⟩
theorem SThks.keep {w w' : World} {vs : List Value} {ps : List (List Nat)} (h : SThks w vs ps) (hk : StrKeep w w') : SThks w' vs ps := ⟨h.1, fun j v p a b => (h.2 j v p a b).keep hk⟩
theorem SThks.snoc {w : World} {vs : List Value} {ps : List (List Nat)} {v : Value} {p : List Nat} (h : SThks w vs ps) (k : SThk w v p) : SThks w (vs ++ [v]) (ps ++ [p]) := by
  refine ⟨by simp [h.1], fun j v' p' a b => ?_⟩
  have hl := h.1
  by_cases hj : j < vs.length
  · rw [List.getElem?_append_left hj] at a
    rw [List.getElem?_append_left (by omega)] at b
    exact h.2 j v' p' a b
  · rw [List.getElem?_append_right (by omega)] at a
    rw [List.getElem?_append_right (by omega)] at b
    have : j = vs.length := by
      have := (List.getElem?_eq_some_iff.1 a).1
      simp at this
      omega
    subst this
    rw [← hl] at b
    simp at a b
    subst a b
    exact k
theorem info_ptr : (Try.prog.info? 95).map (fun i => (i.zero, i.size, i.bytes)) = some (some (.pointer none), 1, 8) := by kernel_rfl
/-- The array that fills up. -/
def fill (vs : List Value) (n : Nat) : Array Value := (vs ++ List.replicate (n - vs.length) (Value.pointer none)).toArray
theorem fill_at {vs : List Value} {n : Nat} (h : vs.length < n) : (fill vs n)[vs.length]? = some (.pointer none) := by
  unfold fill
  obtain ⟨d, hd⟩ : ∃ d, n - vs.length = d + 1 := ⟨n - vs.length - 1, by omega⟩
  rw [hd, List.replicate_succ, List.getElem?_toArray, List.getElem?_append_right (Nat.le_refl _), Nat.sub_self]
  rfl
theorem fill_set {vs : List Value} {n : Nat} (h : vs.length < n) (u : Value) : (fill vs n).setIfInBounds vs.length u = fill (vs ++ [u]) n := by
  unfold fill
  obtain ⟨d, hd⟩ : ∃ d, n - vs.length = d + 1 := ⟨n - vs.length - 1, by omega⟩
  have e : n - (vs ++ [u]).length = d := by simp; omega
  rw [hd, e, List.replicate_succ, List.setIfInBounds_toArray]
  congr 1
  rw [List.set_append_right _ _ (Nat.le_refl _), Nat.sub_self, List.set_cons_zero]
  simp
def ArrTo (w : World) (ps : List (List Nat)) (e : Ending) (w' : World) : Prop := ∃ (p r : Nat) (vs : List Value), e = .returned (.tuple #[.iface 94 (.pointer (some ⟨p, 0, none⟩)), .nilIface]) ∧
  Blk w' p 93 #[.slice (some ⟨r, 0, none⟩) ps.length ps.length] ∧ Blk w' r 95 vs.toArray ∧ SThks w' vs ps ∧ Below w.heap.size w w'
set_option maxRecDepth 100000 in
theorem array_any (r n : Nat) (hn : n ≤ 10000000) (w : World) : Calls Try.prog 35 #[.slice (some ⟨r, 0, none⟩) n n] w fun e w' =>
    e = .returned (.pointer (some ⟨w.heap.size, 0, none⟩)) ∧ w' = w.alloc (.cells #[.slice (some ⟨r, 0, none⟩) n n] 93) := by
  go_enter Try.func35, Try.ntmps35
  go_wp2
  go_ret
  exact ⟨rfl, rfl⟩

set_option maxHeartbeats 4000000 in
set_option maxRecDepth 100000 in
theorem split_built (i a b : Value) (q : Nat) (s sep : ByteArray) (l u : List Nat) (hs : Is s l) (hu : Is sep u) (hne : u ≠ []) (h1 : s.size ≤ 10000) (h2 : sep.size ≤ 10000) (n : Int) (M : Nat) (hn : (n = -1 ∧ M = 40000) ∨ (n = M ∧ M < 32768)) (w : World)
    (ha : Flat w a l) (hb : Flat w b u) (hq : Blk w q 117 #[.float .f64 (floatOfInt .f64 n)]) :
    Calls Try.prog 24 #[i, a, b, .iface 110 (.pointer (some ⟨q, 0, none⟩))] w (ArrTo w (parts u M l)) := by
  obtain ⟨p, rfl, hc⟩ := go_any a s l hs w ha
  obtain ⟨p', rfl, hc'⟩ := go_any b sep u hu w hb
  have hnb : -1 ≤ n ∧ n < 32768 := by omega
  obtain ⟨nb1, nb2⟩ := hnb
  have hgi := getInt_any i q n (by omega) (by omega) w hq
  have hsp : 0 < sep.size := hu.pos hne
  have HC := Lib.hid hc
  have HC' := Lib.hid hc'
  have HGI := Lib.hid hgi
  have hll := hs.read.le.2
  have HSN : Hid (∀ (m : Int), (m = -1 ∧ M = 40000) ∨ (m = M + 1 ∧ M ≤ 40000) → Calls Try.prog 33 #[.string s, .string sep, .int .i64 m] w (SplTo w (parts u M l))) := fun m hm => splitN_any s sep l u hs hu hne h1 h2 m M hm w
  have HN := Lib.hid hn
  have HPS : Hid (∀ p ∈ parts u M l, (p.flatMap enc).length ≤ s.size) := by
    have hsz := hs.size
    have key : ∀ (m : Nat) (l : List Nat), ∀ p ∈ parts u m l, (p.flatMap enc).length ≤ (l.flatMap enc).length := by
      intro m
      induction m with
      | zero => intro l p hp; simp [parts] at hp; subst hp; exact Nat.le_refl _
      | succ m ih =>
        intro l p hp
        rw [parts] at hp
        split at hp
        · simp at hp; subst hp; exact Nat.le_refl _
        · rename_i k hk
          have e : ∀ j, (l.flatMap enc).length = ((l.take j).flatMap enc).length + ((l.drop j).flatMap enc).length := fun j => by
            conv => lhs; rw [← List.take_append_drop j l, List.flatMap_append, List.length_append]
          rcases List.mem_cons.1 hp with rfl | hp
          · have := e k; omega
          · have := ih _ p hp; have := e (k + u.length); omega
    intro p hp
    have := key M l p hp
    omega
  have HPL : Hid ((parts u M l).length ≤ 10001) := by
    have key : ∀ (m : Nat) (l : List Nat), (parts u m l).length ≤ l.length + 1 := by
      intro m
      induction m with
      | zero => intro l; simp [parts]
      | succ m ih =>
        intro l
        rw [parts]
        split
        · simp
        · rename_i k hk
          have := ih (l.drop (k + u.length))
          have hul : 0 < u.length := by cases u with | nil => exact absurd rfl hne | cons => simp
          have hkl : k + u.length ≤ l.length := by
            refine Classical.byContradiction fun hh => ?_
            have hno : first u l = none ∨ ∃ k', first u l = some k' ∧ At u l k' := by
              by_cases hx : ∃ k', At u l k'
              · obtain ⟨k', hk'⟩ := hx
                cases hf : first u l with
                | none => exact .inl rfl
                | some k2 => 
                  refine .inr ⟨k2, rfl, ?_⟩
                  unfold first at hf
                  exact firstOf_at hf
              · exact .inl (first_none fun k' hk' => hx ⟨k', hk'⟩)
            rcases hno with hno | ⟨k', e, hat⟩
            · rw [hno] at hk; cases hk
            · rw [hk] at e
              injection e with e
              subst e
              exact hh hat.1
          rw [List.length_cons]
          rw [List.length_drop] at this
          omega
    have := key M l
    show _ ≤ _
    omega
  clear hc hc' hgi ha hb hq hs hu hne hn
  go_enter Try.func24, Try.ntmps24
  go_wp2_with (first
    | (go_at_call 30; refine (getStr_any _ _ _).mono ?_; rintro e w' ⟨rfl, rfl⟩)
    | (go_at_call 31; refine HGI.out.mono ?_; rintro e w' ⟨rfl, rfl⟩))
  rw [go_meth _ _ _ (by kernel_rfl)]
  go_wp2_with (go_at_call 64; refine HC.out.mono ?_; rintro e w' ⟨rfl, rfl⟩)
  rw [go_meth _ _ _ (by kernel_rfl)]
  have hd : n = -1 ∨ (0 ≤ n ∧ ¬ n = -1) := by omega
  rcases hd with rfl | ⟨hd1, hd2⟩
  · go_wp2_with (go_at_call 64; refine HC'.out.mono ?_; rintro e w' ⟨rfl, rfl⟩)
    go_at_call 33
    refine (HSN.out _ (.inl ⟨rfl, by have := HN.out; omega⟩)).mono ?_
    rintro e w1 ⟨v, ts, rfl, hts, ho, hb1⟩
    have hpl := HPL.out
    have htl := hts.1
    obtain ⟨A, c, rfl, hc7⟩ := own_form ho
    have hrd := Reads.of_own ho
    have HR := Lib.hid hrd
    have HT := Lib.hid hts
    have HB1 := Lib.hid hb1
    have hs1 := hb1.size
    have htl2 : ts.length ≤ 10001 := by omega
    have HTL := Lib.hid htl
    have hmk := fun (W : World) => run_make_one (P := Try.prog) 91 95 Try.underlying91 info_ptr rfl .i64 .i64 ts.length (by omega) (by omega) W
    have HB0 : Hid (Blk (w1.alloc (.cells (Array.replicate ts.length (Value.pointer none)) 95)) w1.heap.size 95 (fill [] ts.length)) := by
      have := Blk.new w1 95 (Array.replicate ts.length (Value.pointer none))
      have e : fill [] ts.length = Array.replicate ts.length (Value.pointer none) := by unfold fill; simp
      rw [e]
      exact this
    have HSZ : Hid (∀ t : ByteArray, (∃ k : Nat, ts[k]? = some t) → t.size ≤ 10000) := by
      rintro t ⟨k, hk⟩
      obtain ⟨pp, hpp⟩ : ∃ pp, (parts u M l)[k]? = some pp := ⟨_, List.getElem?_eq_getElem (by have := (List.getElem?_eq_some_iff.1 hk).1; omega)⟩
      rw [(hts.2 k t pp hk hpp).size]
      exact Nat.le_trans (HPS.out pp (List.mem_of_getElem? hpp)) h1
    clear hts ho hb1 hrd htl hpl
    go_wp2
    go_loopw [74] (fun i wr => ∃ (k : Nat) (vs : List Value), k ≤ ts.length ∧ i = .int .i64 k ∧ vs.length = k ∧ Blk wr w1.heap.size 95 (fill vs ts.length) ∧ SThks wr vs ((parts u M l).take k) ∧ Below w1.heap.size w1 wr ∧ w1.heap.size < wr.heap.size) (fun i _ => ts.length - (intOf i).toNat)
    case atStart => exact ⟨0, [], by omega, rfl, rfl, HB0.out, SThks.nil _, (Below.refl _ _).alloc (Nat.le_refl _) _, by simp⟩
    case round =>
      obtain ⟨k, vs, hk, rfl, hvk, hblk, hth, hf, hlr⟩ := hrel
      obtain ⟨wo, rfl⟩ : ∃ wo : World, wo = wr := ⟨_, rfl⟩
      have HBK := Lib.hid hblk
      have HTH := Lib.hid hth
      have HF := Lib.hid hf
      have HVK := Lib.hid hvk
      by_cases hlt : k < ts.length
      · obtain ⟨t, ht⟩ : ∃ t, ts[k]? = some t := ⟨_, List.getElem?_eq_getElem hlt⟩
        obtain ⟨pp, hpp⟩ : ∃ pp, (parts u M l)[k]? = some pp := ⟨_, List.getElem?_eq_getElem (by have := HTL.out; omega)⟩
        have hI := HT.out.2 k t pp ht hpp
        obtain ⟨ad, rfl, hb, hc⟩ := HR.out.2 (by omega)
        have q1 : wo.cell? (ad.add k) = some (.string t) := (hf.cell (p := ad.add k) (by rw [block_of_add]; exact hb)).trans (hc k _ (strs_at ht))
        have hsz2 : t.size ≤ 10000 := HSZ.out t ⟨k, ht⟩
        have HI := Lib.hid hI
        have HPP := Lib.hid hpp
        have z0 : (0 : Int) ≤ (k : Int) := by omega
        have z1 : (k : Int) < (ts.length : Int) := by omega
        clear hblk hth hf hvk ht hpp hI hc
        go_wp2_with fail
        go_at_call 21
        refine (made t pp HI.out hsz2 wo).mono ?_
        rintro e w2 ⟨fv, rfl, hfl, hb2⟩
        obtain ⟨fp, fg, fc, fA, rfl, -⟩ := id hfl
        have hb2s := hb2.size
        have HFL := Lib.hid hfl
        have HB2 := Lib.hid hb2
        have HBK2 := Lib.hid (HBK.out.later hb2)
        have r1 : (w2.alloc (.cells #[.pointer none, .nilIface, .iface 86 (.pointer (some ⟨fp, 0, none⟩)), .nilIface] 100)).cell? ⟨w1.heap.size, k, none⟩ = some (.pointer none) := ((HBK2.out.alloc _).cell k).trans (by have := HVK.out; subst this; exact fill_at hlt)
        have r2 : (w2.alloc (.cells #[.pointer none, .nilIface, .iface 86 (.pointer (some ⟨fp, 0, none⟩)), .nilIface] 100)).frozen? ⟨w1.heap.size, k, none⟩ = false := (HBK2.out.alloc _).frozen k
        clear hfl hb2
        go_wp2_with (go_at_call 34; refine (ready_any _ _ _).mono ?_; rintro e w3 ⟨rfl, rfl⟩)
        have HN1 : Hid (Blk ((w2.alloc (.cells #[.pointer none, .nilIface, .iface 86 (.pointer (some ⟨fp, 0, none⟩)), .nilIface] 100)).setCell ⟨w1.heap.size, k, none⟩ (.pointer (some ⟨w2.heap.size, 0, none⟩))) w1.heap.size 95 (fill (vs ++ [.pointer (some ⟨w2.heap.size, 0, none⟩)]) ts.length)) := by
          have := (HBK2.out.alloc (.cells #[.pointer none, .nilIface, .iface 86 (.pointer (some ⟨fp, 0, none⟩)), .nilIface] 100)).set_ k (.pointer (some ⟨w2.heap.size, 0, none⟩))
          have e := fill_set (vs := vs) (n := ts.length) (by have := HVK.out; omega) (.pointer (some ⟨w2.heap.size, 0, none⟩))
          rw [HVK.out] at e
          rw [e] at this
          exact this
        have hkp : StrKeep (w2.alloc (.cells #[.pointer none, .nilIface, .iface 86 (.pointer (some ⟨fp, 0, none⟩)), .nilIface] 100)) ((w2.alloc (.cells #[.pointer none, .nilIface, .iface 86 (.pointer (some ⟨fp, 0, none⟩)), .nilIface] 100)).setCell ⟨w1.heap.size, k, none⟩ (.pointer (some ⟨w2.heap.size, 0, none⟩))) :=
          StrKeep.set_ (HBK2.out.alloc _) k _ (by decide) (by decide) (by decide)
        have hka : StrKeep w2 (w2.alloc (.cells #[.pointer none, .nilIface, .iface 86 (.pointer (some ⟨fp, 0, none⟩)), .nilIface] 100)) := StrKeep.below ((Below.refl _ _).alloc (Nat.le_refl _) _)
        have HN2 : Hid (SThks ((w2.alloc (.cells #[.pointer none, .nilIface, .iface 86 (.pointer (some ⟨fp, 0, none⟩)), .nilIface] 100)).setCell ⟨w1.heap.size, k, none⟩ (.pointer (some ⟨w2.heap.size, 0, none⟩))) (vs ++ [.pointer (some ⟨w2.heap.size, 0, none⟩)]) ((parts u M l).take (k + 1))) := by
          have e : (parts u M l).take (k + 1) = (parts u M l).take k ++ [pp] := by
            obtain ⟨hk2, he⟩ := List.getElem?_eq_some_iff.1 HPP.out
            rw [List.take_succ_eq_append_getElem hk2, he]
          show SThks _ _ _
          rw [e]
          refine (HTH.out.keep (((StrKeep.below HB2.out).trans hka).trans hkp)).snoc ?_
          exact SThk.keep (w := w2.alloc _) ⟨w2.heap.size, _, rfl, Blk.new w2 _ _, HFL.out.keep hka⟩ hkp
        have HN3 := Lib.hid (((HF.out.trans (HB2.out.mono (by omega))).alloc (by omega) (.cells #[.pointer none, .nilIface, .iface 86 (.pointer (some ⟨fp, 0, none⟩)), .nilIface] 100)).setCell (p := ⟨w1.heap.size, k, none⟩) (Nat.le_refl _) (.pointer (some ⟨w2.heap.size, 0, none⟩)))
        clear r1 r2 hkp hka
        go_roundw
        case rel => exact ⟨k + 1, _, by omega, by go_num, by simp [HVK.out], HN1.out, HN2.out, HN3.out, by simp; omega⟩
        case measure => simp [intOf]; omega
      · obtain rfl : ts.length = k := by omega
        have HV : Hid (fill vs ts.length = vs.toArray) := by show _ = _; unfold fill; rw [← HVK.out]; simp
        have HTH2 : Hid (SThks wo vs (parts u M l)) := by
          have := HTH.out
          rw [List.take_of_length_le (by have := HTL.out; omega)] at this
          exact this
        have HFF := Lib.hid (HB1.out.trans (HF.out.mono hs1))
        have hff := HFF.out.size
        clear hblk hth hf hvk
        go_wp2_with (go_at_call 35; refine (array_any _ _ (by omega) _).mono ?_; rintro e w3 ⟨rfl, rfl⟩)
        go_ret2
        refine ⟨wo.heap.size, w1.heap.size, vs, rfl, ?_, ?_, HTH2.out.keep (StrKeep.below ((Below.refl _ _).alloc (Nat.le_refl _) _)), HFF.out.alloc hff _⟩
        · rw [← HTL.out]; exact Blk.new wo _ _
        · have := HBK.out.alloc (.cells #[.slice (some ⟨w1.heap.size, 0, none⟩) ts.length ts.length] 93)
          rw [HV.out] at this
          exact this
  · have hw1 : IntKind.i64.wrap (n + 1) = n + 1 := by rw [IntKind.wrap_i64]; omega
    go_wp2_with (go_at_call 64; refine HC'.out.mono ?_; rintro e w' ⟨rfl, rfl⟩)
    go_at_call 33
    refine (HSN.out _ (.inr ⟨by have := HN.out; omega, by have := HN.out; omega⟩)).mono ?_
    rintro e w1 ⟨v, ts, rfl, hts, ho, hb1⟩
    have hpl := HPL.out
    have htl := hts.1
    obtain ⟨A, c, rfl, hc7⟩ := own_form ho
    have hrd := Reads.of_own ho
    have HR := Lib.hid hrd
    have HT := Lib.hid hts
    have HB1 := Lib.hid hb1
    have hs1 := hb1.size
    have htl2 : ts.length ≤ 10001 := by omega
    have HTL := Lib.hid htl
    have hmk := fun (W : World) => run_make_one (P := Try.prog) 91 95 Try.underlying91 info_ptr rfl .i64 .i64 ts.length (by omega) (by omega) W
    have HB0 : Hid (Blk (w1.alloc (.cells (Array.replicate ts.length (Value.pointer none)) 95)) w1.heap.size 95 (fill [] ts.length)) := by
      have := Blk.new w1 95 (Array.replicate ts.length (Value.pointer none))
      have e : fill [] ts.length = Array.replicate ts.length (Value.pointer none) := by unfold fill; simp
      rw [e]
      exact this
    have HSZ : Hid (∀ t : ByteArray, (∃ k : Nat, ts[k]? = some t) → t.size ≤ 10000) := by
      rintro t ⟨k, hk⟩
      obtain ⟨pp, hpp⟩ : ∃ pp, (parts u M l)[k]? = some pp := ⟨_, List.getElem?_eq_getElem (by have := (List.getElem?_eq_some_iff.1 hk).1; omega)⟩
      rw [(hts.2 k t pp hk hpp).size]
      exact Nat.le_trans (HPS.out pp (List.mem_of_getElem? hpp)) h1
    clear hts ho hb1 hrd htl hpl
    go_wp2
    go_loopw [74] (fun i wr => ∃ (k : Nat) (vs : List Value), k ≤ ts.length ∧ i = .int .i64 k ∧ vs.length = k ∧ Blk wr w1.heap.size 95 (fill vs ts.length) ∧ SThks wr vs ((parts u M l).take k) ∧ Below w1.heap.size w1 wr ∧ w1.heap.size < wr.heap.size) (fun i _ => ts.length - (intOf i).toNat)
    case atStart => exact ⟨0, [], by omega, rfl, rfl, HB0.out, SThks.nil _, (Below.refl _ _).alloc (Nat.le_refl _) _, by simp⟩
    case round =>
      obtain ⟨k, vs, hk, rfl, hvk, hblk, hth, hf, hlr⟩ := hrel
      obtain ⟨wo, rfl⟩ : ∃ wo : World, wo = wr := ⟨_, rfl⟩
      have HBK := Lib.hid hblk
      have HTH := Lib.hid hth
      have HF := Lib.hid hf
      have HVK := Lib.hid hvk
      by_cases hlt : k < ts.length
      · obtain ⟨t, ht⟩ : ∃ t, ts[k]? = some t := ⟨_, List.getElem?_eq_getElem hlt⟩
        obtain ⟨pp, hpp⟩ : ∃ pp, (parts u M l)[k]? = some pp := ⟨_, List.getElem?_eq_getElem (by have := HTL.out; omega)⟩
        have hI := HT.out.2 k t pp ht hpp
        obtain ⟨ad, rfl, hb, hc⟩ := HR.out.2 (by omega)
        have q1 : wo.cell? (ad.add k) = some (.string t) := (hf.cell (p := ad.add k) (by rw [block_of_add]; exact hb)).trans (hc k _ (strs_at ht))
        have hsz2 : t.size ≤ 10000 := HSZ.out t ⟨k, ht⟩
        have HI := Lib.hid hI
        have HPP := Lib.hid hpp
        have z0 : (0 : Int) ≤ (k : Int) := by omega
        have z1 : (k : Int) < (ts.length : Int) := by omega
        clear hblk hth hf hvk ht hpp hI hc
        go_wp2_with fail
        go_at_call 21
        refine (made t pp HI.out hsz2 wo).mono ?_
        rintro e w2 ⟨fv, rfl, hfl, hb2⟩
        obtain ⟨fp, fg, fc, fA, rfl, -⟩ := id hfl
        have hb2s := hb2.size
        have HFL := Lib.hid hfl
        have HB2 := Lib.hid hb2
        have HBK2 := Lib.hid (HBK.out.later hb2)
        have r1 : (w2.alloc (.cells #[.pointer none, .nilIface, .iface 86 (.pointer (some ⟨fp, 0, none⟩)), .nilIface] 100)).cell? ⟨w1.heap.size, k, none⟩ = some (.pointer none) := ((HBK2.out.alloc _).cell k).trans (by have := HVK.out; subst this; exact fill_at hlt)
        have r2 : (w2.alloc (.cells #[.pointer none, .nilIface, .iface 86 (.pointer (some ⟨fp, 0, none⟩)), .nilIface] 100)).frozen? ⟨w1.heap.size, k, none⟩ = false := (HBK2.out.alloc _).frozen k
        clear hfl hb2
        go_wp2_with (go_at_call 34; refine (ready_any _ _ _).mono ?_; rintro e w3 ⟨rfl, rfl⟩)
        have HN1 : Hid (Blk ((w2.alloc (.cells #[.pointer none, .nilIface, .iface 86 (.pointer (some ⟨fp, 0, none⟩)), .nilIface] 100)).setCell ⟨w1.heap.size, k, none⟩ (.pointer (some ⟨w2.heap.size, 0, none⟩))) w1.heap.size 95 (fill (vs ++ [.pointer (some ⟨w2.heap.size, 0, none⟩)]) ts.length)) := by
          have := (HBK2.out.alloc (.cells #[.pointer none, .nilIface, .iface 86 (.pointer (some ⟨fp, 0, none⟩)), .nilIface] 100)).set_ k (.pointer (some ⟨w2.heap.size, 0, none⟩))
          have e := fill_set (vs := vs) (n := ts.length) (by have := HVK.out; omega) (.pointer (some ⟨w2.heap.size, 0, none⟩))
          rw [HVK.out] at e
          rw [e] at this
          exact this
        have hkp : StrKeep (w2.alloc (.cells #[.pointer none, .nilIface, .iface 86 (.pointer (some ⟨fp, 0, none⟩)), .nilIface] 100)) ((w2.alloc (.cells #[.pointer none, .nilIface, .iface 86 (.pointer (some ⟨fp, 0, none⟩)), .nilIface] 100)).setCell ⟨w1.heap.size, k, none⟩ (.pointer (some ⟨w2.heap.size, 0, none⟩))) :=
          StrKeep.set_ (HBK2.out.alloc _) k _ (by decide) (by decide) (by decide)
        have hka : StrKeep w2 (w2.alloc (.cells #[.pointer none, .nilIface, .iface 86 (.pointer (some ⟨fp, 0, none⟩)), .nilIface] 100)) := StrKeep.below ((Below.refl _ _).alloc (Nat.le_refl _) _)
        have HN2 : Hid (SThks ((w2.alloc (.cells #[.pointer none, .nilIface, .iface 86 (.pointer (some ⟨fp, 0, none⟩)), .nilIface] 100)).setCell ⟨w1.heap.size, k, none⟩ (.pointer (some ⟨w2.heap.size, 0, none⟩))) (vs ++ [.pointer (some ⟨w2.heap.size, 0, none⟩)]) ((parts u M l).take (k + 1))) := by
          have e : (parts u M l).take (k + 1) = (parts u M l).take k ++ [pp] := by
            obtain ⟨hk2, he⟩ := List.getElem?_eq_some_iff.1 HPP.out
            rw [List.take_succ_eq_append_getElem hk2, he]
          show SThks _ _ _
          rw [e]
          refine (HTH.out.keep (((StrKeep.below HB2.out).trans hka).trans hkp)).snoc ?_
          exact SThk.keep (w := w2.alloc _) ⟨w2.heap.size, _, rfl, Blk.new w2 _ _, HFL.out.keep hka⟩ hkp
        have HN3 := Lib.hid (((HF.out.trans (HB2.out.mono (by omega))).alloc (by omega) (.cells #[.pointer none, .nilIface, .iface 86 (.pointer (some ⟨fp, 0, none⟩)), .nilIface] 100)).setCell (p := ⟨w1.heap.size, k, none⟩) (Nat.le_refl _) (.pointer (some ⟨w2.heap.size, 0, none⟩)))
        clear r1 r2 hkp hka
        go_roundw
        case rel => exact ⟨k + 1, _, by omega, by go_num, by simp [HVK.out], HN1.out, HN2.out, HN3.out, by simp; omega⟩
        case measure => simp [intOf]; omega
      · obtain rfl : ts.length = k := by omega
        have HV : Hid (fill vs ts.length = vs.toArray) := by show _ = _; unfold fill; rw [← HVK.out]; simp
        have HTH2 : Hid (SThks wo vs (parts u M l)) := by
          have := HTH.out
          rw [List.take_of_length_le (by have := HTL.out; omega)] at this
          exact this
        have HFF := Lib.hid (HB1.out.trans (HF.out.mono hs1))
        have hff := HFF.out.size
        clear hblk hth hf hvk
        go_wp2_with (go_at_call 35; refine (array_any _ _ (by omega) _).mono ?_; rintro e w3 ⟨rfl, rfl⟩)
        go_ret2
        refine ⟨wo.heap.size, w1.heap.size, vs, rfl, ?_, ?_, HTH2.out.keep (StrKeep.below ((Below.refl _ _).alloc (Nat.le_refl _) _)), HFF.out.alloc hff _⟩
        · rw [← HTL.out]; exact Blk.new wo _ _
        · have := HBK.out.alloc (.cells #[.slice (some ⟨w1.heap.size, 0, none⟩) ts.length ts.length] 93)
          rw [HV.out] at this
          exact this
end Go.Proofs.Ytohhcmcelofgeaa
