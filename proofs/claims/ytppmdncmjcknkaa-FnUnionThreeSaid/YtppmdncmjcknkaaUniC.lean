/-
  impl.Union. Conditions: none.
-/
import Derived.Test.YtppmdncmjcknkaaUniB
import Derived.Test.YtppmdncmjcknkaaSrt
import Derived.Deep.AppendLies
namespace Go.Proofs.Ytppmdncmjcknkaa
open Go.RowKit
set_option linter.unusedVariables false
set_option linter.unusedSimpArgs false

def nums (l : List Int) : List Value := l.map (Value.int .i64)
theorem nums_length (l : List Int) : (nums l).length = l.length := by simp [nums]
theorem nums_at {l : List Int} {k : Nat} {n : Int} (h : l[k]? = some n) : (nums l)[k]? = some (.int .i64 n) := by simp [nums, h]
theorem nums_snoc (l : List Int) (n : Int) : nums (l ++ [n]) = nums l ++ [.int .i64 n] := by simp [nums]
theorem nums_append (l m : List Int) : nums (l ++ m) = nums l ++ nums m := by simp [nums]
theorem nums_one (l : List Int) : ∀ u ∈ nums l, u.oneCell' = true := by
  intro u hu
  simp only [nums, List.mem_map] at hu
  obtain ⟨s, _, rfl⟩ := hu
  rfl
def Nums (w : World) (v : Value) (l : List Int) : Prop := ∃ (A : Option Addr) (c : Nat), v = .slice A l.length c ∧ l.length ≤ c ∧ Reads w w.heap.size 1 A l.length (nums l)
theorem Nums.below {w w' : World} {v : Value} {l : List Int} (h : Nums w v l) (hb : Below w.heap.size w w') : Nums w' v l := by
  obtain ⟨A, c, e, hc, hr⟩ := h
  exact ⟨A, c, e, hc, (hr.below hb).more hb.size⟩
theorem nums_of_own {w : World} {base : Nat} {t : TypeId} {v : Value} {l : List Int} (h : w.ownsRow base t 1 v l.length (nums l)) : Nums w v l := by
  obtain ⟨A, c, rfl, hc⟩ := own_form h
  exact ⟨A, c, rfl, hc, Reads.of_own h⟩
theorem lines_of_own {w : World} {base : Nat} {t : TypeId} {v : Value} {l : List ByteArray} (h : w.ownsRow base t 1 v l.length (strs l)) : Lines w v l := by
  obtain ⟨A, c, rfl, hc⟩ := own_form h
  exact ⟨A, c, rfl, hc, Reads.of_own h⟩

/-! ### plain -/
theorem look_map (g : Int → Int) (s : ByteArray) : ∀ l : List (ByteArray × Int), look (l.map fun p => (p.1, g p.2)) s = (look l s).map g
  | [] => rfl
  | (k, v) :: l => by
    show (match look (l.map fun p => (p.1, g p.2)) s with | some x => some x | none => @ite _ (k = s) (Classical.propDecidable _) (some (g v)) none) = _
    rw [look_map g s l]
    show _ = Option.map g (match look l s with | some x => some x | none => @ite _ (k = s) (Classical.propDecidable _) (some v) none)
    cases look l s with
    | some x => rfl
    | none =>
      by_cases e : k = s
      · simp [e]
      · simp [e]
theorem zip_prs : ∀ (ns : List ByteArray) (vs : List Int) (k : Nat), ns.length + k = vs.length → ns.zip (vs.drop k) = (prs ns (k : Int)).map fun p => (p.1, vs.getD p.2.toNat 0)
  | [], vs, k, _ => by simp [prs]
  | s :: l, vs, k, h => by
    have hk : k < vs.length := by simp at h; omega
    have ih := zip_prs l vs (k + 1) (by simp at h; omega)
    rw [List.drop_eq_getElem_cons hk, List.zip_cons_cons, ih]
    simp [prs, List.getD_eq_getElem?_getD, hk]
theorem look_zip {ns : List ByteArray} {vs : List Int} (h : ns.length = vs.length) (s : ByteArray) : look (ns.zip vs) s = (look (prs ns 0) s).map fun j => vs.getD j.toNat 0 := by
  have := zip_prs ns vs 0 (by omega)
  rw [List.drop_zero] at this
  rw [this]
  exact look_map (fun j => vs.getD j.toNat 0) s _
theorem zip_self (g : ByteArray → Int) : ∀ L : List ByteArray, L.zip (L.map g) = L.map fun s => (s, g s)
  | [] => rfl
  | s :: L => by simp [zip_self g L]
theorem look_own (L : List ByteArray) (F : ByteArray → Option Int) (h : ∀ s, s ∈ L ↔ (F s).isSome = true) (s : ByteArray) : look (L.zip (L.map fun s => (F s).getD 0)) s = F s := by
  rw [zip_self]
  cases hl : look (L.map fun s => (s, (F s).getD 0)) s with
  | some x =>
    obtain ⟨t, ht, e⟩ := List.mem_map.1 (look_in hl)
    injection e with e1 e2
    subst e1
    obtain ⟨y, hy⟩ := Option.isSome_iff_exists.1 ((h t).1 ht)
    rw [hy] at e2 ⊢
    rw [← e2]
    rfl
  | none =>
    cases hF : F s with
    | none => rfl
    | some y =>
      have : s ∈ (L.map fun s => (s, (F s).getD 0)).map (·.1) := by
        rw [List.map_map]
        exact List.mem_map.2 ⟨s, (h s).2 (by rw [hF]; rfl), rfl⟩
      have := look_mem.2 this
      rw [hl] at this
      cases this
theorem look_both {xs ys : List ByteArray} {x y : List Int} (hx : xs.length = x.length) (s : ByteArray) : look ((xs ++ ys).zip (x ++ y)) s = (look (ys.zip y) s).or (look (xs.zip x) s) := by
  rw [List.zip_append hx, look_append]

/-! ### the walk -/
theorem info_s : (Try.prog.info? 9).map (fun i => (i.zero, i.size, i.bytes)) = some (some (.string ⟨#[]⟩), 1, 16) := by kernel_rfl
theorem info_i : (Try.prog.info? 3).map (fun i => (i.zero, i.size, i.bytes)) = some (some (.int .i64 0), 1, 8) := by kernel_rfl
theorem zero_i (w : World) : (zeroValue 3).run Try.prog w = .ok (.int .i64 0) w := by kernel_rfl
theorem own_empty1 (W : World) (n base : Nat) (t : TypeId) (hb : base ≤ W.heap.size) (hn : W.heap.size = n) : (W.alloc (.cells #[] t)).ownsRow base t 1 (.slice (some ⟨n, 0, none⟩) 0 0) 0 [] := by
  subst hn
  exact World.ownsRow_lit W #[] 0 hb (Nat.zero_le _) rfl
theorem take_one {l : List Int} {k : Nat} {z : Int} (h : l[k]? = some z) : l.take (k + 1) = l.take k ++ [z] := by
  have hk := (List.getElem?_eq_some_iff.1 h).1
  rw [List.take_succ_eq_append_getElem hk, (List.getElem?_eq_some_iff.1 h).2]
def UnionTo (w : World) (N : Nat) (F : ByteArray → Option Int) (e : Ending) (w' : World) : Prop := ∃ v1 v2 D, e = .returned (.tuple #[v1, v2, .bool true]) ∧ D.Nodup ∧ (∀ s, s ∈ D ↔ (F s).isSome = true) ∧ D.length ≤ N ∧ Lines w' v1 (srt D) ∧ Nums w' v2 ((srt D).map fun s => (F s).getD 0) ∧ Below w.heap.size w w'
set_option maxRecDepth 100000 in
set_option maxHeartbeats 4000000 in
theorem union_any (va vx vb vy : Value) (xs ys : List ByteArray) (x y : List Int) (w : World) (hxs : Lines w va xs) (hx : Nums w vx x) (hys : Lines w vb ys) (hy : Nums w vy y) (h1 : xs.length = x.length) (h2 : ys.length = y.length) (h3 : xs.length ≤ 400) (h4 : ys.length ≤ 400) :
    Calls Try.prog 9 #[va, vx, vb, vy] w (UnionTo w (xs.length + ys.length) (fun s => (look (ys.zip y) s).or (look (xs.zip x) s))) := by
  obtain ⟨i9, hi9, hz9, hz9', hz9''⟩ := info_parts info_s
  obtain ⟨i3, hi3, hz3, hz3', hz3''⟩ := info_parts info_i
  obtain ⟨Aa, ca, rfl, hca, ra⟩ := hxs
  obtain ⟨Ax, cx, rfl, hcx, rx⟩ := hx
  obtain ⟨Ab, cb, rfl, hcb, rb⟩ := hys
  obtain ⟨Ay, cy, rfl, hcy, ry⟩ := hy
  obtain ⟨F, hFd⟩ : ∃ F : ByteArray → Option Int, F = fun s => (look (ys.zip y) s).or (look (xs.zip x) s) := ⟨_, rfl⟩
  have HF : Hid (∀ s, F s = (look (prs (xs ++ ys) 0) s).map fun j => (x ++ y).getD j.toNat 0) := fun s => by
    rw [hFd]
    show (look (ys.zip y) s).or (look (xs.zip x) s) = _
    rw [← look_both h1, look_zip (by simp; omega)]
  rw [← hFd]
  clear hFd
  have HGB : Hid (∀ s j, look (prs (xs ++ ys) 0) s = some j → 0 ≤ j ∧ j.toNat < (x ++ y).length) := fun s j h => by
    have hl : (xs ++ ys).length ≤ 1000 := by rw [List.length_append]; omega
    have := prs_bound hl h
    rw [List.length_append] at this ⊢
    omega
  have HPU : Hid (∀ w0 : World, Below w.heap.size w w0 → Calls Try.prog 16 #[.slice Aa xs.length ca, .slice Ab ys.length cb] w0 (PuTo w0 (xs.length + ys.length) (look (prs (xs ++ ys) 0)))) := fun w0 hw => part_any Aa Ab ca cb xs ys w0 ((ra.below hw).more hw.size) ((rb.below hw).more hw.size) h3 h4
  generalize look (prs (xs ++ ys) 0) = G at HF HGB HPU
  have RX := Lib.hid rx
  have RY := Lib.hid ry
  rw [← h1] at rx RX hcx ⊢
  rw [← h2] at ry RY hcy ⊢
  have H1 := Lib.hid h1
  have H2 := Lib.hid h2
  clear h1 h2 ra rb rx ry hca hcx hcb hcy
  go_enter Try.func9, Try.ntmps9
  go_wp2_with fail
  go_at_call 16
  refine (HPU.out w (Below.refl _ _)).mono ?_
  rintro e w1 ⟨b, rfl, hm1, hb1⟩
  have HM1 := Lib.hid hm1
  have HB1 := Lib.hid hb1
  have hs1 := hb1.size
  clear hm1 hb1 HPU
  go_wp2_with (at_range; refine wpList_rrange _ rfl (.tmp 31) 37 rfl _ _ Try.underlying37 b (xs.length + ys.length) (intv G) rfl HM1.out ?_; intro w2 cnt2 hr2 hb2 hs2)
  have HR2 := Lib.hid hr2
  have HB2 := Lib.hid (HB1.out.trans (hb2.mono hs1))
  have hw2 : w1.heap.size + 1 = w2.heap.size := hs2.symm
  have hbl := HM1.out.lt
  clear hr2 hb2 hs2
  go_frame
  go_loopw [8] (fun out wr => ∃ (D : List ByteArray) (cnt : Nat), Rit wr w1.heap.size b (xs.length + ys.length) (intv G) D cnt ∧ wr.ownsRow w.heap.size 9 1 out D.length (strs D) ∧ Below w.heap.size w wr) (fun _ wr => wr.rangeLeft b w1.heap.size)
  case atStart => exact ⟨[], _, HR2.out, World.ownsRow_nil _ _ _ _, HB2.out⟩
  case round =>
    obtain ⟨D, cnt, hr, ho, hbw⟩ := hrel
    obtain ⟨wo, rfl⟩ : ∃ wo : World, wo = wr := ⟨_, rfl⟩
    have HR := Lib.hid hr
    have HO := Lib.hid ho
    have HB := Lib.hid hbw
    have hsz := hbw.size
    have hDl := hr.len
    have HNE := Lib.hid (hr.ne_own ho)
    have HNB := Lib.hid (hr.rmap.ne_own ho)
    clear hr ho hbw
    go_wp2_with (first
      | (at_next; refine wpList_rnext _ rfl (.tmp 32) rfl b w1.heap.size (xs.length + ys.length) (intv G) D cnt rfl HR.out (fun hl => ?_) (fun s v w3 cnt3 hx hen => ?_))
      | (at_builtin; refine wpList_append_lies _ rfl (.tmp 37) (.tmp 39) _ rfl w.heap.size 9 i9 _ 1 16 Try.underlying22 hi9 hz9 hz9' hz9'' rfl (by omega) u8 D.length (strs D) rfl ((HO.out.kept hx.out.2.2.2.2.1 (own_ne_block HO.out HNE.out)).alloc _) ⟨w3.heap.size, 0, none⟩ 1 1 [.string s] rfl rfl (news_at _ _ _ _ (by simp)) (by simp [Value.oneCell']) (by omega) (by simp only [maxLen]; omega) (by omega) (by have := hx.out.2.2.2.2.2; simp; omega) (w3.heap.size + 1) (by simp) ?_; intro g4 cap4 w4 hown4 hg4 hat4 hlt4))
    · have HDS : Hid (∀ s, s ∈ D ↔ (F s).isSome = true) := fun s => by
        have hfs : (F s).isSome = (intv G s).isSome := by rw [HF.out s]; unfold intv; simp
        rw [hfs]
        exact ⟨HR.out.has s, hl.out s⟩
      have HDN := Lib.hid HR.out.nodup
      have HM := Lib.hid HR.out.rmap
      clear hl
      go_at_call 17
      refine (sort_own HO.out (by omega)).mono ?_
      rintro e w5 ⟨rfl, ho5, hg5⟩
      have HO5 := Lib.hid ho5
      have HM5 := Lib.hid (HM.out.grown hg5 HNB.out)
      have HB5 := Lib.hid (HB.out.grown hg5 hsz (fun a ha => (HO.out.lt a ha).1))
      have hs5 := HB5.out.size
      obtain ⟨A8, c8, rfl, hc8⟩ := own_form ho5
      clear ho5 hg5 HNE HNB HR HO
      go_wp2_with (first
        | (at_builtin; refine wpList_append_any _ rfl (.tmp 43) (.tmp 44) _ rfl w.heap.size 3 i3 _ 1 8 Try.underlying25 hi3 hz3 hz3' hz3'' rfl (by omega) (.slice (some ⟨w5.heap.size, 0, none⟩) 0 0) 0 [] rfl (own_empty1 w5 _ _ _ hs5 rfl) w.heap.size Ax xs.length cx (nums x) rfl (RX.out.below (HB5.out.alloc hs5 _)) (nums_one x) (by simp only [maxLen]; omega) (by omega) (by simp; omega) ?_; intro v6 w6 hown6 hg6 hat6)
        | (at_builtin; refine wpList_append_any w6 rfl (.tmp 45) (.tmp 46) _ rfl w.heap.size 3 i3 _ 1 8 Try.underlying25 hi3 hz3 hz3' hz3'' rfl (by omega) v6 (0 + xs.length) ([] ++ nums x) rfl hown6 w.heap.size Ay ys.length cy (nums y) rfl (RY.out.below ((HB5.out.alloc hs5 _).grown hg6 (by simp; omega) (fun a ha => by simp [Value.ownBlock] at ha; omega))) (nums_one y) (by simp only [maxLen]; omega) (by omega) (by have := hg6.size; simp at this; omega) ?_; intro v7 w7 hown7 hg7 hat7))
      have hb6 := (HB5.out.alloc hs5 (.cells #[] 3)).grown hg6 (by simp; omega) (fun a ha => by simp [Value.ownBlock] at ha; omega)
      have ho6 := (HO5.out.alloc (.cells #[] 3)).kept hg6 (own_ne (HO5.out.alloc (.cells #[] 3)) (own_empty1 w5 _ _ 3 (Nat.le_refl _) rfl) (by decide))
      have hm6 := (HM5.out.alloc (.cells #[] 3)).grown hg6 (RMap.ne_own (HM5.out.alloc (.cells #[] 3)) (own_empty1 w5 _ _ 3 (Nat.le_refl _) rfl))
      have HB7 := Lib.hid (hb6.grown hg7 hb6.size (fun a ha => (hown6.lt a ha).1))
      have HO7 := Lib.hid (ho6.kept hg7 (own_ne ho6 hown6 (by decide)))
      have HM7 := Lib.hid (hm6.grown hg7 (hm6.ne_own hown6))
      have hs7 := HB7.out.size
      have HA7 : Hid (w7.ownsRow w.heap.size 3 1 v7 (xs.length + ys.length) (nums (x ++ y))) := by
        rw [nums_append]
        have := hown7
        rw [Nat.zero_add, List.nil_append] at this
        exact this
      obtain ⟨A7, c7, rfl, hc7⟩ := own_form HA7.out
      have RA := Lib.hid (Reads.of_own HA7.out)
      have RL := Lib.hid (Reads.of_own HO7.out)
      have RL8 : Hid (Reads w7 w7.heap.size 1 A8 (srt D).length (strs (srt D))) := by rw [srt_len]; exact RL
      clear hown6 hg6 hat6 hown7 hg7 hat7 hb6 ho6 hm6
      go_loopw [9, 50] (fun out i wr => ∃ k : Nat, k ≤ D.length ∧ i = .int .i64 k ∧ wr.ownsRow w7.heap.size 3 1 out k (nums (((srt D).map fun s => (F s).getD 0).take k)) ∧ Below w7.heap.size w7 wr) (fun _ i _ => D.length - (intOf i).toNat)
      case atStart => exact ⟨0, by omega, rfl, World.ownsRow_nil _ _ _ _, Below.refl _ _⟩
      case round =>
        obtain ⟨k, hk, rfl, ho, hbw⟩ := hrel
        obtain ⟨wp, rfl⟩ : ∃ wp : World, wp = wr := ⟨_, rfl⟩
        have HO := Lib.hid ho
        have HOl := Lib.hid ho.lt
        have HB := Lib.hid hbw
        have hszp := hbw.size
        clear ho hbw
        by_cases hlt : k < D.length
        · obtain ⟨ad, s, rfl, -, hs, hc⟩ := RL8.out.line (k := k) (by rw [srt_len]; exact hlt)
          have hsD : s ∈ D := srt_mem.1 (List.mem_of_getElem? hs)
          have hFs := HF.out s
          obtain ⟨z, hz⟩ := Option.isSome_iff_exists.1 ((HDS.out s).1 hsD)
          obtain ⟨j, hj⟩ : ∃ j, G s = some j := by
            rw [hz] at hFs
            cases hg : G s with
            | none => rw [hg] at hFs; cases hFs
            | some j => exact ⟨j, rfl⟩
          obtain ⟨hj0, hjl⟩ := HGB.out s j hj
          obtain ⟨jn, rfl⟩ : ∃ jn : Nat, j = jn := ⟨j.toNat, by omega⟩
          rw [hz, hj] at hFs
          have hzv : z = (x ++ y).getD jn 0 := by simpa using hFs
          have hjl' : jn < xs.length + ys.length := by have a1 := H1.out; have a2 := H2.out; rw [List.length_append] at hjl; simp at hjl; omega
          have hv : ((srt D).map fun s => (F s).getD 0)[k]? = some z := by rw [List.getElem?_map, hs]; simp [hz]
          have HV := Lib.hid hv
          have e1 := cell_below hc HB.out
          obtain ⟨ad7, u7, had7, -, hu7, hc7⟩ := RA.out.at_ hjl'
          subst had7
          have hu7' : u7 = .int .i64 z := by
            rw [nums_at (n := z) (by rw [hzv, List.getD_eq_getElem?_getD]; rw [List.getElem?_eq_getElem (by simpa using hjl)]; rfl)] at hu7
            injection hu7 with hu7
            exact hu7.symm
          subst hu7'
          have e2 := cell_below hc7 HB.out
          have HGV : Hid ((intv G s).getD (.int .i64 0) = .int .i64 (jn : Int)) := by unfold intv; rw [hj]; exact Lib.hid rfl
          have q1 : (jn : Int) < ((xs.length + ys.length : Nat) : Int) := by omega
          have q0 : (0 : Int) ≤ (jn : Int) := by omega
          have hkl : (k : Int) < (D.length : Int) := by omega
          clear hFs hz hj hj0 hjl hzv hv hs hc hc7 hu7
          go_wp2_with (first
            | ((at_lookup; refine wpList_getv _ rfl (.tmp 56) (.tmp 57) 37 rfl 9 3 Try.underlying37 Try.underlying9 _ zero_i b (intv G) rfl (HM7.out.fmap.below HB.out) s rfl ?_); rw [HGV.out])
            | (at_builtin; refine wpList_append_lies _ rfl (.tmp 54) (.tmp 61) _ rfl w7.heap.size 3 i3 _ 1 8 Try.underlying25 hi3 hz3 hz3' hz3'' rfl (by omega) u9 k (nums (((srt D).map fun s => (F s).getD 0).take k)) rfl (HO.out.alloc _) ⟨wp.heap.size, 0, none⟩ 1 1 [.int .i64 z] rfl rfl (news_at _ _ _ _ (by simp)) (by simp [Value.oneCell']) (by omega) (by simp only [maxLen]; omega) (by omega) (by simp; omega) (wp.heap.size + 1) (by simp) ?_; intro g4 cap4 w4 hown4 hg4 hat4 hlt4))
          have HN := Lib.hid (show w4.ownsRow w7.heap.size 3 1 (.slice (some ⟨g4, 0, none⟩) (k + 1) cap4) (k + 1) (nums (((srt D).map fun s => (F s).getD 0).take (k + 1))) from by rw [take_one HV.out, nums_snoc]; exact hown4)
          have HB4 := Lib.hid ((HB.out.alloc hszp (.cells #[.int .i64 z] 3)).grown hg4 (by simp; omega) (fun a ha => (HOl.out a ha).1))
          clear hown4 hg4 hat4 hlt4
          go_wp2
          go_roundw
          case rel => exact ⟨k + 1, by omega, by go_num, HN.out, HB4.out⟩
          case measure => simp [intOf]; omega
        · obtain rfl : k = D.length := by omega
          have hvl : ((srt D).map fun s => (F s).getD 0).length = D.length := by rw [List.length_map, srt_len]
          have HO2 : Hid (wp.ownsRow w7.heap.size 3 1 u9 ((srt D).map fun s => (F s).getD 0).length (nums ((srt D).map fun s => (F s).getD 0))) := by
            have := HO.out
            rw [List.take_of_length_le (by omega)] at this
            rw [hvl]
            exact this
          have HL2 : Hid (Lines w7 (.slice A8 D.length c8) (srt D)) := by
            refine ⟨A8, c8, by rw [srt_len], by rw [srt_len]; exact hc8, ?_⟩
            rw [srt_len]
            exact RL.out
          clear hvl
          go_wp2
          go_ret3
          exact ⟨_, _, D, rfl, HDN.out, HDS.out, hDl, HL2.out.below HB.out, nums_of_own HO2.out, HB7.out.trans (HB.out.mono hs7)⟩
    · have HX := Lib.hid hx.out
      have hs2 := HX.out.2.2.2.2.2
      have HO3 := HO.out.kept HX.out.2.2.2.2.1 (own_ne_block HO.out HNE.out)
      have hne3 := (HX.out.2.2.1.alloc (.cells #[.string s] 9)).ne_own (HO3.alloc (.cells #[.string s] 9))
      have hnb3 := (HX.out.2.2.1.alloc (.cells #[.string s] 9)).rmap.ne_own (HO3.alloc (.cells #[.string s] 9))
      have HR4 := Lib.hid ((HX.out.2.2.1.alloc (.cells #[.string s] 9)).kept hg4 hnb3 hne3)
      have HO4 : Hid (w4.ownsRow w.heap.size 9 1 (.slice (some ⟨g4, 0, none⟩) (D.length + 1) cap4) (D ++ [s]).length (strs (D ++ [s]))) := by
        rw [List.length_append, show strs (D ++ [s]) = strs D ++ [.string s] by simp [strs]]
        exact Lib.hid hown4
      have HB4 := Lib.hid ((((HB.out.grown HX.out.2.2.2.2.1 hsz (fun a ha => by injection ha; omega)).alloc (by omega) (.cells #[.string s] 9)).grown hg4 (by simp; omega) (fun a ha => (HO.out.lt a ha).1)))
      have hle := HR.out.left_eq
      have hle4 := HR4.out.left_eq
      have hlt5 := HX.out.2.2.2.1
      have HLE : Hid (w4.rangeLeft b w1.heap.size < wo.rangeLeft b w1.heap.size) := Lib.hid (by rw [hle, hle4]; exact hlt5)
      clear hx hen hown4 hg4 hat4 hlt4 HO3 hne3 hnb3 hle hle4 hlt5 hs2
      go_wp2
      go_roundw
      case rel => exact ⟨D ++ [s], _, HR4.out, HO4.out, HB4.out⟩
      case measure => exact HLE.out
end Go.Proofs.Ytppmdncmjcknkaa
