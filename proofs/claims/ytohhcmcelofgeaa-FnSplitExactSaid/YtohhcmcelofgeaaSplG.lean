/-
  strsOf, std.splitLimit at texts; FnSplitExact says yes. Conditions: none.
-/
import Derived.Test.YtohhcmcelofgeaaSplF
namespace Go.Proofs.Ytohhcmcelofgeaa
open Go.RowKit
set_option linter.unusedVariables false
set_option linter.unusedSimpArgs false

theorem own_base {w : World} {base base' n size : Nat} {t : TypeId} {v : Value} {xs : List Value} (h : w.ownsRow base t size v n xs) (hb : base' ≤ base) : w.ownsRow base' t size v n xs := by
  refine ⟨h.1, ?_⟩
  rcases h.2 with h | ⟨g, cap, cur, rfl, h1, h2⟩
  · exact .inl h
  · exact .inr ⟨g, cap, cur, rfl, by omega, h2⟩
theorem made_text {l : List Nat} (h : ∀ x ∈ l, Sc x) : ∃ t : ByteArray, Is t l := by
  refine ⟨runesBytes (l.map fun n : Nat => (n : Int)), ?_, h⟩
  unfold runesBytes
  rw [bl_fold l _ h]
  rfl
def StrsTo (w : World) (ps : List (List Nat)) (u : Value) (e : Ending) (w' : World) : Prop := ∃ v ts, e = .returned (.tuple #[v, u]) ∧ TextsOf ts ps ∧ w'.ownsRow w.heap.size 9 1 v ts.length (strs ts) ∧ Below w.heap.size w w'
set_option maxHeartbeats 2000000 in
set_option maxRecDepth 100000 in
theorem strsOf_any (p r : Nat) (vs : List Value) (ps : List (List Nat)) (hps : ∀ x ∈ ps, ∀ y ∈ x, Sc y) (hl : ps.length ≤ 20000) (w : World) (hb : Blk w p 93 #[.slice (some ⟨r, 0, none⟩) ps.length ps.length]) (hr : Blk w r 95 vs.toArray) (ht : SThks w vs ps) :
    Calls Try.prog 23 #[.iface 94 (.pointer (some ⟨p, 0, none⟩)), .nilIface] w (StrsTo w ps .nilIface) := by
  obtain ⟨i9, hi9, hz9, hz9', hz9''⟩ := info_parts info_str
  have hta : ∀ w, (Instr.typeAssert (.iface 94 (.pointer (some ⟨p, 0, none⟩))) 53 94 false).run Try.prog w = .ok (.pointer (some ⟨p, 0, none⟩)) w := fun _ => by kernel_rfl
  have c0 : w.cell? ⟨p, 0, none⟩ = some (.slice (some ⟨r, 0, none⟩) ps.length ps.length) := hb.cell 0
  have hpl := hb.lt
  have HR := Lib.hid hr
  have HT := Lib.hid ht
  have HPS := Lib.hid hps
  have hvl := ht.1
  clear hb hr ht hps
  go_enter Try.func23, Try.ntmps23
  go_wp2
  go_loopw [6, 18] (fun out i wr => ∃ (k : Nat) (ts : List ByteArray), k ≤ ps.length ∧ i = .int .i64 k ∧ Hid (ts.length = k ∧ TextsOf ts (ps.take k)) ∧ wr.ownsRow w.heap.size 9 1 out k (strs ts) ∧ Below w.heap.size w wr) (fun _ i _ => ps.length - (intOf i).toNat)
  case atStart => exact ⟨0, [], by omega, rfl, ⟨rfl, TextsOf.nil⟩, World.ownsRow_nil _ _ _ _, Below.refl _ _⟩
  case round =>
    obtain ⟨k, ts, hk, rfl, hts, ho, hbw⟩ := hrel
    obtain ⟨wo, rfl⟩ : ∃ wo : World, wo = wr := ⟨_, rfl⟩
    have HO := Lib.hid ho
    have HOlt := Lib.hid ho.lt
    have HF := Lib.hid hbw
    have hsz := hbw.size
    by_cases hlt : k < ps.length
    · obtain ⟨x, hx⟩ : ∃ x, ps[k]? = some x := ⟨_, List.getElem?_eq_getElem hlt⟩
      obtain ⟨v, hv⟩ : ∃ v, vs[k]? = some v := ⟨_, List.getElem?_eq_getElem (by omega)⟩
      obtain ⟨t, ht⟩ := made_text (HPS.out x (List.mem_of_getElem? hx))
      have hth := (HT.out.2 k v x hv hx).keep (StrKeep.below hbw)
      obtain ⟨tt, sv, rfl, hb1, hfl⟩ := hth
      obtain ⟨fp, rfl, hgo⟩ := go_any sv t x ht wo hfl
      have q0 : wo.cell? ⟨r, k, none⟩ = some (.pointer (some ⟨tt, 0, none⟩)) := ((HR.out.later hbw).cell k).trans (by simpa using hv)
      have q1 : wo.cell? ⟨tt, 2, none⟩ = some (.iface 86 (.pointer (some ⟨fp, 0, none⟩))) := hb1.cell 2
      have hrl : r < wo.heap.size := (HR.out.later hbw).lt
      have htl := hb1.lt
      have htn : ∀ w, (Instr.typeAssert (.iface 86 (.pointer (some ⟨fp, 0, none⟩))) 53 48 false).run Try.prog w = .ok (.iface 86 (.pointer (some ⟨fp, 0, none⟩))) w := fun _ => by kernel_rfl
      have HGO := Lib.hid hgo
      have HX := Lib.hid hx
      have HI := Lib.hid ht
      have z0 : (0 : Int) ≤ (k : Int) := by omega
      have z1 : (k : Int) < (ps.length : Int) := by omega
      clear ho hbw hx hv ht hb1 hfl hgo
      go_wp2_with fail
      rw [go_meth _ _ _ (by kernel_rfl)]
      go_wp2_with (first
        | (go_at_call 64; refine HGO.out.mono ?_; rintro e w' ⟨rfl, rfl⟩)
        | (at_builtin; refine wpList_append_lies _ rfl (.tmp 22) (.tmp 29) _ rfl w.heap.size 9 i9 _ 1 16 Try.underlying29 hi9 hz9 hz9' hz9'' rfl (by omega) u6 k (strs ts) rfl (HO.out.alloc _) ⟨wo.heap.size, 0, none⟩ 1 1 [.string t] rfl rfl (news_at _ _ _ _ (by simp)) (by simp [Value.oneCell']) (by omega) (by simp only [maxLen]; omega) (by omega) (by simp; omega) (wo.heap.size + 1) (by simp) ?_; intro g2 cap2 w4 hown4 hg4 hat4 hlt4))
      have HO4 : Hid (w4.ownsRow w.heap.size 9 1 (.slice (some ⟨g2, 0, none⟩) (k + 1) cap2) (k + 1) (strs (ts ++ [t]))) := by show World.ownsRow _ _ _ _ _ _ _; rw [strs_snoc]; exact hown4
      have HF4 := Lib.hid ((HF.out.alloc hsz _).grown hg4 (by simp; omega) (fun a ha => (HOlt.out a ha).1))
      have HT4 : Hid ((ts ++ [t]).length = k + 1 ∧ TextsOf (ts ++ [t]) (ps.take (k + 1))) := by
        have e : ps.take (k + 1) = ps.take k ++ [x] := by
          obtain ⟨hk2, he⟩ := List.getElem?_eq_some_iff.1 HX.out
          rw [List.take_succ_eq_append_getElem hk2, he]
        refine ⟨by simp [hts.out.1], ?_⟩
        rw [e]
        exact hts.out.2.snoc HI.out
      clear hown4 hg4 hat4 hlt4 hts
      go_wp2
      go_roundw
      case rel => exact ⟨k + 1, _, by omega, by go_num, HT4.out, HO4.out, HF4.out⟩
      case measure => simp [intOf]; omega
    · obtain rfl : ps.length = k := by omega
      have HTT : Hid (TextsOf ts ps) := by
        have := hts.out.2
        rw [List.take_length] at this
        exact this
      have HO4 : Hid (wo.ownsRow w.heap.size 9 1 u6 ts.length (strs ts)) := by show World.ownsRow _ _ _ _ _ _ _; rw [hts.out.1]; exact HO.out
      clear ho hbw hts
      go_wp2
      go_ret2
      exact ⟨_, ts, rfl, HTT.out, HO4.out, HF.out⟩

theorem parts_sc {u : List Nat} : ∀ (m : Nat) (l : List Nat), (∀ x ∈ l, Sc x) → ∀ p ∈ parts u m l, ∀ y ∈ p, Sc y
  | 0, l, h, p, hp => by simp [parts] at hp; subst hp; exact h
  | m + 1, l, h, p, hp => by
    rw [parts] at hp
    split at hp
    · simp at hp; subst hp; exact h
    · rcases List.mem_cons.1 hp with rfl | hp
      · exact fun y hy => h y (List.mem_of_mem_take hy)
      · exact parts_sc m _ (fun x hx => h x (List.mem_of_mem_drop hx)) p hp
theorem parts_short {u : List Nat} : ∀ (m : Nat) (l : List Nat), ∀ p ∈ parts u m l, p.length ≤ l.length
  | 0, l, p, hp => by simp [parts] at hp; subst hp; exact Nat.le_refl _
  | m + 1, l, p, hp => by
    rw [parts] at hp
    split at hp
    · simp at hp; subst hp; exact Nat.le_refl _
    · rcases List.mem_cons.1 hp with rfl | hp
      · rw [List.length_take]; omega
      · have := parts_short m _ p hp
        rw [List.length_drop] at this
        omega
theorem parts_len {u : List Nat} (hu : 0 < u.length) : ∀ (m : Nat) (l : List Nat), (parts u m l).length ≤ l.length + 1
  | 0, l => by simp [parts]
  | m + 1, l => by
    rw [parts]
    split
    · simp
    · rename_i k hk
      have hat := firstOf_at hk
      have := parts_len hu m (l.drop (k + u.length))
      have := hat.1
      rw [List.length_cons]
      rw [List.length_drop] at *
      omega
set_option maxHeartbeats 1000000 in
set_option maxRecDepth 100000 in
theorem psplit_any (s sep : ByteArray) (l u : List Nat) (hs : Is s l) (hu : Is sep u) (hne : u ≠ []) (h1 : s.size ≤ 10000) (h2 : sep.size ≤ 10000) (n : Int) (M : Nat) (hn : (n = -1 ∧ M = 40000) ∨ (n = M ∧ M < 32768)) (w : World) :
    Calls Try.prog 16 #[.string s, .string sep, .float .f64 (floatOfInt .f64 n)] w (StrsTo w (parts u M l) .nilIface) := by
  obtain ⟨y, hy⟩ : ∃ y, floatOfInt .f64 n = y := ⟨_, rfl⟩
  have HS := Lib.hid hs
  have HU := Lib.hid hu
  have HN := Lib.hid hn
  have HNE := Lib.hid hne
  have Hy := Lib.hid hy
  rw [hy]
  clear hs hu hn hne hy
  go_enter Try.func16, Try.ntmps16
  go_wp2_with fail
  go_at_call 25
  refine (str_any s l HS.out h1 _).mono ?_
  rintro e w1 ⟨v1, rfl, hf1, hb1⟩
  have hb0 : Below w.heap.size w w1 := ((Below.refl _ _).alloc (Nat.le_refl _) _).trans (hb1.mono (by simp))
  have HB1 := Lib.hid hb0
  have hs1 := hb0.size
  have HF1 := Lib.hid hf1
  clear hf1 hb1 hb0
  go_wp2_with fail
  go_at_call 25
  refine (str_any sep u HU.out h2 _).mono ?_
  rintro e w2 ⟨v2, rfl, hf2, hb2⟩
  have HB2 := Lib.hid (HB1.out.trans (hb2.mono hs1))
  have hs2 := HB2.out.size
  have HF1b := Lib.hid (HF1.out.below hb2)
  have HF2 := Lib.hid hf2
  clear hf2 hb2
  go_wp2_with fail
  go_at_call 26
  refine (num_made y w2).mono ?_
  rintro e w3 ⟨rfl, rfl⟩
  have hba : Below w2.heap.size w2 (w2.alloc (.cells #[.float .f64 y] 117)) := (Below.refl _ _).alloc (Nat.le_refl _) _
  have hbs := split_built (.pointer (some ⟨w.heap.size, 0, none⟩)) v1 v2 w2.heap.size s sep l u HS.out HU.out HNE.out h1 h2 n M HN.out (w2.alloc (.cells #[.float .f64 y] 117)) (HF1b.out.below hba) (HF2.out.below hba) (by rw [Hy.out]; exact Blk.new w2 _ _)
  have HBS := Lib.hid hbs
  have HB3 := Lib.hid (HB2.out.alloc hs2 (.cells #[.float .f64 y] 117))
  have hs3 := HB3.out.size
  clear hba hbs
  go_wp2_with fail
  go_at_call 24
  refine HBS.out.mono ?_
  rintro e w4 ⟨p, r, vs, rfl, ha, hr, ht, hb4⟩
  have hso := strsOf_any p r vs (parts u M l) (parts_sc M l HS.out.2) (by
    have := parts_len (u := u) (by have := HNE.out; cases u with | nil => exact absurd rfl this | cons => simp) M l
    have := HS.out.read.le.2
    omega) w4 ha hr ht
  have HSO := Lib.hid hso
  have HB4 := Lib.hid (HB3.out.trans (hb4.mono hs3))
  have hs4 := HB4.out.size
  clear ha hr ht hb4 hso
  go_wp2_with fail
  go_at_call 23
  refine HSO.out.mono ?_
  rintro e w5 ⟨v, ts, rfl, hts, ho, hb5⟩
  have HTS := Lib.hid hts
  have HO := Lib.hid (own_base ho hs4)
  have HB5 := Lib.hid (HB4.out.trans (hb5.mono hs4))
  clear hts ho hb5
  go_wp2
  go_ret2
  exact ⟨v, ts, rfl, HTS.out, HO.out, HB5.out⟩
set_option maxRecDepth 100000 in
theorem texts_any (v : Value) (w : World) : Calls Try.prog 15 #[v, .nilIface] w fun e w' => e = .returned (.tuple #[v, .bool true]) ∧ w = w' := by
  go_enter Try.func15, Try.ntmps15
  go_wp2
  go_ret2
  exact ⟨rfl, rfl⟩
set_option maxRecDepth 100000 in
theorem tsplit_any (s sep : ByteArray) (l u : List Nat) (hs : Is s l) (hu : Is sep u) (hne : u ≠ []) (h1 : s.size ≤ 10000) (h2 : sep.size ≤ 10000) (n : Int) (M : Nat) (hn : (n = -1 ∧ M = 40000) ∨ (n = M ∧ M < 32768)) (w : World) :
    Calls Try.prog 9 #[.string s, .string sep, .float .f64 (floatOfInt .f64 n)] w (StrsTo w (parts u M l) (.bool true)) := by
  have hps := psplit_any s sep l u hs hu hne h1 h2 n M hn w
  have HP := Lib.hid hps
  obtain ⟨y, hy⟩ : ∃ y, floatOfInt .f64 n = y := ⟨_, rfl⟩
  rw [hy] at HP ⊢
  clear hs hu hn hne hy hps
  go_enter Try.func9, Try.ntmps9
  go_wp2_with fail
  go_at_call 16
  refine HP.out.mono ?_
  rintro e w5 ⟨v, ts, rfl, hts, ho, hb5⟩
  have HTS := Lib.hid hts
  have HO := Lib.hid ho
  have HB5 := Lib.hid hb5
  clear hts ho hb5
  go_wp2_with (go_at_call 15; refine (texts_any _ _).mono ?_; rintro e w' ⟨rfl, rfl⟩)
  go_ret2
  exact ⟨v, ts, rfl, HTS.out, HO.out, HB5.out⟩

/-! ### the law -/
theorem holds_cells {B : Nat} {w : World} {v : Value} {x : List Nat} (h : Holds B w v x) : ∃ g cap : Nat, v = .slice (some ⟨g, 0, none⟩) x.length cap ∧ x.length ≤ cap ∧ B ≤ g ∧ g < w.heap.size ∧ CellsAt w g x := by
  obtain ⟨g, cap, rfl, h⟩ := h
  obtain ⟨A, c, e, hc⟩ := own_form h
  injection e with _ _ e3
  have hl := h.lt g rfl
  exact ⟨g, cap, rfl, by omega, hl.1, hl.2, fun j hj => by
    rw [h.cellAt j (by omega)]
    simp [ints, rune, hj]⟩
theorem CellsAt.below {w w' : World} {g : Nat} {x : List Nat} (h : CellsAt w g x) (hg : g < w.heap.size) (hb : Below w.heap.size w w') : CellsAt w' g x := fun j hj => (hb.cell (p := ⟨g, j, none⟩) hg).trans (h j hj)
theorem Told.is {s : ByteArray} (h : Told s) : ∃ l, Is s l := by
  obtain ⟨_, l, hl⟩ := h
  exact ⟨l, hl.is⟩
def Law (w : World) (e : Ending) (w' : World) : Prop := e = .returned (.bool true) ∧ Below w.heap.size w w'
set_option maxHeartbeats 2000000 in
set_option maxRecDepth 100000 in
theorem walk_yes (s sep : ByteArray) (l u : List Nat) (hs : s.size ≤ 2000) (hsep : sep.size ≤ 2000) (h : Is s l) (k : Is sep u) (hne : u ≠ []) (n : Int) (M : Nat) (hn : (n = -1 ∧ M = 40000) ∨ (n = M ∧ M < 32768)) (w : World) :
    Calls Try.prog 4 #[.string s, .string sep, .int .i16 n] w (Law w) := by
  have H := Lib.hid h
  have K' := Lib.hid k
  have HNE := Lib.hid hne
  have HN := Lib.hid hn
  have hul : 0 < u.length := by cases u with | nil => exact absurd rfl hne | cons => simp
  have hll := h.read.le.2
  have hul2 := k.read.le.2
  have hnb : -1 ≤ n ∧ n < 32768 := by omega
  obtain ⟨nb1, nb2⟩ := hnb
  obtain ⟨y, hy⟩ : ∃ y, floatOfInt .f64 n = y := ⟨_, rfl⟩
  have hcv : ∀ w, (convert 28 32 (.int .i16 n)).run Try.prog w = .ok (.float .f64 y) w := fun w => by
    rw [← hy]
    first
    | exact run_convert_int_float w _ _ _ _ _ Try.underlying28 Try.underlying32
    | (simp only [convert, run_underlying Try.underlying28, run_underlying Try.underlying32, Sem.run_bind, Result.andThen, Sem.run_pure]; rfl)
  have Hy := Lib.hid hy
  have hd0 : decide ((u.length : Int) = 0) = false := decide_eq_false (by omega)
  have hd1 : ((u.length : Int) == 0) = false := by rw [beq_eq_false_iff_ne]; omega
  have hd2 : ¬ n < -1 := by omega
  clear h k hne hn hy
  go_enter Try.func4, Try.ntmps4
  go_wp2_with fail
  go_at_call 5
  refine (units9_yes s ⟨hs, l, H.out.read⟩ w).mono ?_
  rintro e w1 ⟨l', v, hr, rfl, hh, hb1⟩
  obtain rfl : l = l' := H.out.read.unique hr
  obtain ⟨g, cap, rfl, hcap, hgb, hg, hc⟩ := holds_cells hh
  have HC1 := Lib.hid hc
  have HB1 := Lib.hid hb1
  have hs1 := hb1.size
  clear hr hh hc hb1
  go_wp2_with fail
  go_at_call 5
  refine (units9_yes sep ⟨hsep, u, K'.out.read⟩ w1).mono ?_
  rintro e w2 ⟨u', v2, hr2, rfl, hh2, hb2⟩
  obtain rfl : u = u' := K'.out.read.unique hr2
  obtain ⟨g2, cap2, rfl, hcap2, hgb2, hg2, hc2⟩ := holds_cells hh2
  have HC2 := Lib.hid hc2
  have HC1b := Lib.hid (HC1.out.below hg hb2)
  have HB2 := Lib.hid (HB1.out.trans (hb2.mono hs1))
  have hs2 := HB2.out.size
  have hb2s := hb2.size
  clear hr2 hh2 hc2 hb2
  have hts := tsplit_any s sep l u H.out K'.out HNE.out (by omega) (by omega) n M HN.out w2
  rw [Hy.out] at hts
  have HTS := Lib.hid hts
  clear hts
  go_wp2_with fail
  go_at_call 9
  refine HTS.out.mono ?_
  rintro e w3 ⟨v3, ts, rfl, htx, ho, hb3⟩
  obtain ⟨A3, c3, rfl, hc3⟩ := own_form ho
  have HTX := Lib.hid htx
  have HRD := Lib.hid (Reads.of_own ho)
  have HB3 := Lib.hid (HB2.out.trans (hb3.mono hs2))
  have hs3 := HB3.out.size
  have hb3s := hb3.size
  have HC3 := Lib.hid (HC1b.out.below (by omega) hb3)
  have HC3b := Lib.hid (HC2.out.below hg2 hb3)
  clear htx ho hb3
  have hsp := split_any g g2 cap cap2 l u (by omega) (by omega) hul hcap n M (by have := HN.out; omega) w3 (fun _ => by omega) (by omega) HC3.out HC3b.out
  have HSP := Lib.hid hsp
  clear hsp
  go_wp2_with fail
  go_at_call 11
  refine HSP.out.mono ?_
  rintro e w4 ⟨v4, vs, rfl, ho4, hsub, hb4⟩
  obtain ⟨A4, c4, rfl, hc4⟩ := own_form ho4
  have htl := HTX.out.1
  have hpl := parts_len hul M l
  have hsm := same_any A3 ts.length c3 A4 c4 ts (parts u M l) vs htl.symm HTX.out (by omega) (fun p hp => by have := parts_short M l p hp; omega) w4 ((HRD.out.below hb4).more hb4.size) (by rw [htl]; exact Reads.of_own ho4) hsub
  rw [← htl]
  have HSM := Lib.hid hsm
  have HB4 := Lib.hid (HB3.out.trans (hb4.mono hs3))
  have hs4 := HB4.out.size
  clear ho4 hsub hb4 hsm htl hpl
  go_wp2_with fail
  go_at_call 10
  refine HSM.out.mono ?_
  rintro e w5 ⟨rfl, hb5⟩
  have HB5 := Lib.hid (HB4.out.trans (hb5.mono hs4))
  clear hb5
  go_wp2
  go_ret
  exact ⟨rfl, HB5.out⟩
set_option maxHeartbeats 1000000 in
set_option maxRecDepth 100000 in
theorem walk_low (s sep : ByteArray) (l u : List Nat) (hs : s.size ≤ 2000) (hsep : sep.size ≤ 2000) (h : Is s l) (k : Is sep u) (n : Int) (hn : u = [] ∨ (u ≠ [] ∧ n < -1)) (w : World) :
    Calls Try.prog 4 #[.string s, .string sep, .int .i16 n] w (Law w) := by
  have H := Lib.hid h
  have K' := Lib.hid k
  have hll := h.read.le.2
  have hul2 := k.read.le.2
  clear h k
  rcases hn with rfl | ⟨hne, hn⟩
  · go_enter Try.func4, Try.ntmps4
    go_wp2_with fail
    go_at_call 5
    refine (units9_yes s ⟨hs, l, H.out.read⟩ w).mono ?_
    rintro e w1 ⟨l', v, hr, rfl, hh, hb1⟩
    obtain ⟨g, cap, rfl, hcap, hgb, hg, hc⟩ := holds_cells hh
    have HB1 := Lib.hid hb1
    have hs1 := hb1.size
    clear hr hh hc hb1
    go_wp2_with fail
    go_at_call 5
    refine (units9_yes sep ⟨hsep, [], K'.out.read⟩ w1).mono ?_
    rintro e w2 ⟨u', v2, hr2, rfl, hh2, hb2⟩
    obtain rfl : [] = u' := K'.out.read.unique hr2
    obtain ⟨g2, cap2, rfl, hcap2, hgb2, hg2, hc2⟩ := holds_cells hh2
    have HB2 := Lib.hid (HB1.out.trans (hb2.mono hs1))
    clear hr2 hh2 hc2 hb2
    go_wp2
    go_ret
    exact ⟨rfl, HB2.out⟩
  · have hul : 0 < u.length := by cases u with | nil => exact absurd rfl hne | cons => simp
    have hd0 : decide ((u.length : Int) = 0) = false := decide_eq_false (by omega)
    have hd1 : ((u.length : Int) == 0) = false := by rw [beq_eq_false_iff_ne]; omega
    clear hne
    go_enter Try.func4, Try.ntmps4
    go_wp2_with fail
    go_at_call 5
    refine (units9_yes s ⟨hs, l, H.out.read⟩ w).mono ?_
    rintro e w1 ⟨l', v, hr, rfl, hh, hb1⟩
    obtain ⟨g, cap, rfl, hcap, hgb, hg, hc⟩ := holds_cells hh
    have HB1 := Lib.hid hb1
    have hs1 := hb1.size
    clear hr hh hc hb1
    go_wp2_with fail
    go_at_call 5
    refine (units9_yes sep ⟨hsep, u, K'.out.read⟩ w1).mono ?_
    rintro e w2 ⟨u', v2, hr2, rfl, hh2, hb2⟩
    obtain rfl : u = u' := K'.out.read.unique hr2
    obtain ⟨g2, cap2, rfl, hcap2, hgb2, hg2, hc2⟩ := holds_cells hh2
    have HB2 := Lib.hid (HB1.out.trans (hb2.mono hs1))
    clear hr2 hh2 hc2 hb2
    go_wp2
    go_ret
    exact ⟨rfl, HB2.out⟩
theorem units9_some (s : ByteArray) (hm : s.size ≤ maxLen) (w : World) : Calls Try.prog 5 #[.string s] w fun e w' => (∃ v b, e = .returned (.tuple #[v, .bool b]) ∧ (b = true → Told s)) ∧ Below w.heap.size w w' := by
  by_cases ht : Told s
  · refine (units9_yes s ht w).mono ?_
    rintro e w1 ⟨l, v, hr, rfl, hh, hb⟩
    exact ⟨⟨_, _, rfl, fun _ => ht⟩, hb⟩
  · refine (units9_no s hm ht w).mono ?_
    rintro e w1 ⟨rfl, hb⟩
    exact ⟨⟨_, _, rfl, fun h => by simp at h⟩, hb⟩
set_option maxHeartbeats 1000000 in
set_option maxRecDepth 100000 in
theorem walk_no (s sep : ByteArray) (hs : s.size ≤ 2147483647) (hsep : sep.size ≤ 2147483647) (hn : ¬ Told s ∨ ¬ Told sep) (n : Int) (w : World) :
    Calls Try.prog 4 #[.string s, .string sep, .int .i16 n] w (Law w) := by
  have HN := Lib.hid hn
  clear hn
  go_enter Try.func4, Try.ntmps4
  go_wp2_with fail
  go_at_call 5
  refine (units9_some s (by unfold maxLen; omega) w).mono ?_
  rintro e w1 ⟨⟨v, b, rfl, hb⟩, hb1⟩
  have HB1 := Lib.hid hb1
  have hs1 := hb1.size
  have Hb := Lib.hid hb
  clear hb hb1
  go_wp2_with fail
  go_at_call 5
  refine (units9_some sep (by unfold maxLen; omega) w1).mono ?_
  rintro e w2 ⟨⟨v2, b2, rfl, hb2⟩, hb3⟩
  have HB2 := Lib.hid (HB1.out.trans (hb3.mono hs1))
  have Hb2 := Lib.hid hb2
  clear hb2 hb3
  cases b
  · go_wp2
    go_ret
    exact ⟨rfl, HB2.out⟩
  · cases b2
    · go_wp2
      go_ret
      exact ⟨rfl, HB2.out⟩
    · exact absurd (Hb2.out rfl) (by rcases HN.out with h | h; exact absurd (Hb.out rfl) h; exact h)
theorem walk_big (s sep : ByteArray) (hm : s.size ≤ 9223372036854775807) (hm2 : sep.size ≤ 9223372036854775807) (hs : 2147483647 < s.size ∨ (s.size ≤ 2147483647 ∧ 2147483647 < sep.size)) (n : Int) (w : World) :
    Calls Try.prog 4 #[.string s, .string sep, .int .i16 n] w (Law w) := by
  rcases hs with hs | ⟨h1, hs⟩
  all_goals
    go_enter Try.func4, Try.ntmps4
    go_wp2
    go_ret
    exact ⟨rfl, Below.refl _ _⟩
theorem walk (s : ByteArray) (hm : s.size ≤ maxLen) (sep : ByteArray) (hm2 : sep.size ≤ maxLen) (n : Int) (hw : (Lit.int .i16 n).wf = true) (w : World) :
    Calls Try.prog 4 #[.string s, .string sep, .int .i16 n] w fun e w' => e = .returned (.bool true) ∧ Below w.heap.size w w' := by
  by_cases hb : 2147483647 < s.size ∨ (s.size ≤ 2147483647 ∧ 2147483647 < sep.size)
  · exact walk_big s sep (by unfold maxLen at hm; omega) (by unfold maxLen at hm2; omega) hb n w
  · by_cases ht : Told s ∧ Told sep
    · obtain ⟨l, hl⟩ := ht.1.is
      obtain ⟨u, hu⟩ := ht.2.is
      by_cases hne : u = []
      · exact walk_low s sep l u ht.1.1 ht.2.1 hl hu n (.inl hne) w
      by_cases hn : n < -1
      · exact walk_low s sep l u ht.1.1 ht.2.1 hl hu n (.inr ⟨hne, hn⟩) w
      by_cases hn1 : n = -1
      · exact walk_yes s sep l u ht.1.1 ht.2.1 hl hu hne n 40000 (.inl ⟨hn1, rfl⟩) w
      · obtain ⟨M, rfl⟩ := Int.eq_ofNat_of_zero_le (show 0 ≤ n by omega)
        have hwf : (M : Int) ≤ 32767 := by
          have h := hw
          simp only [Lit.wf, Bool.and_eq_true, decide_eq_true_eq] at h
          have h2 := h.2
          rw [show IntKind.i16.max = 32767 by decide] at h2
          exact h2
        exact walk_yes s sep l u ht.1.1 ht.2.1 hl hu hne M M (.inr ⟨rfl, by omega⟩) w
    · exact walk_no s sep (by omega) (by omega) (by
        by_cases h : Told s
        · exact .inr fun h2 => ht ⟨h, h2⟩
        · exact .inl h) n w
end Go.Proofs.Ytohhcmcelofgeaa
