/-
  flattenArgs. Conditions: none.
-/
import Derived.Test.YtppmdncmjcknkaaBndH
import Derived.Test.YtppmdncmjcknkaaMake
import Derived.Laws.CopyOwn
namespace Go.Proofs.Ytppmdncmjcknkaa
open Go.RowKit
set_option linter.unusedVariables false
set_option linter.unusedSimpArgs false

theorem zero_int (W : World) : (zeroValue 3).run Try.prog W = .ok (.int .i64 0) W := by kernel_rfl

/-- The place of each of the first params. -/
def FPos (P : List ByteArray) (k : Nat) (f : ByteArray → Option Value) : Prop := ∀ (s : ByteArray) (a : Nat), place P s = some a → a < k → f s = some (.int .i64 a)
theorem FPos.put {P : List ByteArray} {k : Nat} {f : ByteArray → Option Value} (h : FPos P k f) (hA : Apart P) {s : ByteArray} (hs : P[k]? = some s) : FPos P (k + 1) (fun x => if s = x then some (.int .i64 (k : Nat)) else f x) := by
  intro x a hp ha
  show (if s = x then _ else f x) = _
  by_cases hx : s = x
  · subst hx
    rw [if_pos rfl]
    rw [place_inj hA hs] at hp
    injection hp with hp
    rw [hp]
  · rw [if_neg hx]
    refine h x a hp ?_
    by_cases hak : a = k
    · subst hak
      have := place_some hp
      rw [hs] at this
      injection this with this
      exact absurd this hx
    · omega

/-- What each param has got. -/
def FlatR (w : World) (vs : List Value) (out : List Int) : Prop := ∀ i, i < vs.length → ∃ u, vs[i]? = some u ∧ ((out.getD i (-1) = -1 ∧ u = .pointer none) ∨ (0 ≤ out.getD i (-1) ∧ Thk w u (out.getD i (-1))))
theorem FlatR.keep {w w' : World} {vs : List Value} {out : List Int} (h : FlatR w vs out) (hk : NumKeep w w') : FlatR w' vs out := fun i hi => by
  obtain ⟨u, h1, h2⟩ := h i hi
  exact ⟨u, h1, h2.imp id fun ⟨a, b⟩ => ⟨a, b.keep hk⟩⟩
theorem FlatR.set_ {w : World} {vs : List Value} {out : List Int} (h : FlatR w vs out) {a : Nat} {u : Value} {x : Nat} (hl : out.length = vs.length) (ht : Thk w u (x : Int)) : FlatR w (vs.set a u) (out.set a (x : Int)) := by
  intro i hi
  rw [List.length_set] at hi
  by_cases hai : a = i
  · subst hai
    refine ⟨u, by rw [List.getElem?_set]; simp [hi], .inr ?_⟩
    have : (out.set a (x : Int)).getD a (-1) = x := by
      rw [List.getD_eq_getElem?_getD, List.getElem?_set]; simp [show a < out.length by omega]
    rw [this]
    exact ⟨by omega, ht⟩
  · obtain ⟨v, h1, h2⟩ := h i hi
    have : (out.set a (x : Int)).getD i (-1) = out.getD i (-1) := by
      rw [List.getD_eq_getElem?_getD, List.getElem?_set, if_neg hai, ← List.getD_eq_getElem?_getD]
    rw [this]
    exact ⟨v, by rw [List.getElem?_set, if_neg hai]; exact h1, h2⟩
theorem flat_start {w : World} {P : List ByteArray} {n : Nat} {ts : List Value} (hn : n ≤ P.length) (hl : ts.length = n) (hts : ∀ (j : Nat) (u : Value), ts[j]? = some u → Thk w u j) : FlatR w (ts ++ List.replicate (P.length - n) (.pointer none)) (start P n) := by
  intro i hi
  simp only [List.length_append, List.length_replicate] at hi
  rw [start_at (by omega)]
  by_cases hin : i < n
  · have hu : ts[i]? = some ts[i] := List.getElem?_eq_getElem (by omega)
    refine ⟨ts[i], by rw [List.getElem?_append_left (by omega)]; exact hu, .inr ?_⟩
    rw [if_pos hin]
    exact ⟨by omega, hts i _ hu⟩
  · refine ⟨.pointer none, ?_, .inl ⟨by rw [if_neg hin], rfl⟩⟩
    rw [List.getElem?_append_right (by omega), List.getElem?_replicate, if_pos (by omega)]

/-- What flattenArgs returns. -/
def Flats (w : World) (m : Nat) (l : List Int) (e : Ending) (w' : World) : Prop :=
  ∃ (F : Nat) (vs : List Value), e = .returned (.slice (some ⟨F, 0, none⟩) m m) ∧ w.heap.size ≤ F ∧ Blk w' F 53 vs.toArray ∧ vs.length = m ∧ FlatR w' vs l ∧ Below w.heap.size w w'

set_option maxRecDepth 100000 in
set_option maxHeartbeats 3200000 in
theorem flatten_any (n D base : Nat) (vp vn pv : Value) (P N : List ByteArray) (l : List Int) (w : World) (hg : given P n N = some l) (hpos : PosOk w base n vp) (hnam : NamOk w base n N.length vn N) (hpar : ParOk w base P.length pv P false)
    (hD : Blk w D 64 (Array.replicate P.length Value.nilIface)) (hP : P.length ≤ 100) (hN : N.length ≤ 100) (hn : n ≤ 200) (hA : Apart P) :
    Calls Try.prog 20 #[.agg #[vp, vn, .bool false], pv, .slice (some ⟨D, 0, none⟩) P.length P.length] w (Flats w P.length l) := by
  have hnp : n ≤ P.length := by
    refine Classical.byContradiction fun h => ?_
    unfold given at hg
    rw [if_neg h] at hg
    cases hg
  obtain ⟨ts, ho, hts⟩ := hpos
  obtain ⟨xs, hon, hxs⟩ := hnam
  obtain ⟨ys, hop, hys⟩ := hpar
  obtain ⟨Ap, cp, rfl, hcp⟩ := own_form ho
  obtain ⟨An, cn, rfl, hcn⟩ := own_form hon
  obtain ⟨Aq, cq, rfl, hcq⟩ := own_form hop
  have hmm := fun (n : Int) (W : World) => run_makeMap_hint (P := Try.prog) 94 71 3 .i64 n Try.underlying94 W
  have hmk := fun (W : World) => run_make_one (P := Try.prog) 44 53 Try.underlying44 info_ptr rfl .i64 .i64 P.length (by omega) (by omega) W
  have HG := Lib.hid hg
  have Ho := Lib.hid ho
  have Hts := Lib.hid hts
  have Hon := Lib.hid hon
  have Hxs := Lib.hid hxs
  have Hop := Lib.hid hop
  have Hys := Lib.hid hys
  have HA := Lib.hid hA
  have HD := Lib.hid hD
  clear ho hts hon hxs hop hys hA hg hD
  go_enter Try.func20, Try.ntmps20
  go_wp2
  go_loopw [19] (fun i wr => ∃ (k : Nat) (f : ByteArray → Option Value), k ≤ P.length ∧ i = .int .i64 k ∧ Below w.heap.size w wr ∧ Blk wr w.heap.size 48 #[.slice Ap n cp, .slice An N.length cn, .bool false] ∧ FMap wr (w.heap.size + 1) f ∧ FPos P k f ∧ w.heap.size + 2 ≤ wr.heap.size) (fun i _ => P.length - (intOf i).toNat)
  case atStart =>
    refine ⟨0, fun _ => none, by omega, rfl, ((Below.refl _ _).alloc (Nat.le_refl _) _).alloc (by simp) _, (Blk.new w 48 #[.slice Ap n cp, .slice An N.length cn, .bool false]).alloc _, ?_, fun s a _ h => absurd h (by omega), by simp⟩
    have := FMap.new (w.alloc (.cells #[.slice Ap n cp, .slice An N.length cn, .bool false] 48))
    simpa using this
  case round =>
    obtain ⟨k, f, hk, rfl, hbw, hbx, hf, hfi, hsz⟩ := hrel
    have HB := Lib.hid hbw
    have HX := Lib.hid hbx
    have HF := Lib.hid hf
    have HFi := Lib.hid hfi
    by_cases hlt : k < P.length
    · obtain ⟨g, s, d, rfl, hgl, hs, c0, c1, hd⟩ := par_at Hop.out rfl hlt Hys.out
      have e0 := (hbw.cell (p := ⟨g, k * 2, none⟩) hgl).trans c0
      have e1 := (hbw.cell (p := ⟨g, k * 2 + 1, none⟩) hgl).trans c1
      have hd' : d = .nilIface := hd
      subst hd'
      have Hs := Lib.hid hs
      clear hbw hbx hf hfi hs c0 c1 hd
      go_wp2_with (at_mapUpdate; refine wpList_put _ rfl (.tmp 24) (.tmp 26) (.tmp 27) 94 rfl 71 3 Try.underlying94 Try.underlying71 (w.heap.size + 1) f rfl (HF.out.alloc _) s (.int .i64 k) rfl rfl ?_; intro w2 hf2 hg2)
      have hs2 := hg2.size
      simp at hs2
      have HB2 := Lib.hid (((HB.out.trans ((((Below.refl _ _).alloc (Nat.le_refl _) _).mono HB.out.size))).grown hg2 (by simp; omega) (fun a ha => by injection ha; omega)))
      have HX2 := Lib.hid (blk_grown hg2 (HX.out.alloc _) (by simp))
      have HF2 := Lib.hid hf2
      have HFi2 := Lib.hid (HFi.out.put HA.out Hs.out)
      clear hf2 hg2
      go_wp2
      go_roundw
      case rel => exact ⟨k + 1, _, by omega, by go_num, HB2.out, HX2.out, HF2.out, HFi2.out, by omega⟩
      case measure => simp [intOf]; omega
    · obtain rfl : P.length = k := by omega
      clear hbw hbx hf hfi
      have hx0 : wr.cell? ⟨w.heap.size, 0, none⟩ = some (.slice Ap n cp) := HX.out.cell 0
      have hl0 : w.heap.size < wr.heap.size := by omega
      obtain ⟨wA, rfl⟩ : ∃ wA : World, wA = wr := ⟨_, rfl⟩
      have hblk : Hid ((wA.alloc (.cells (Array.replicate P.length (Value.pointer none)) 53)).heap[wA.heap.size]? = some (.cells (List.replicate P.length (Value.pointer none)).toArray 53 (0, 0))) := by
        have := heap_alloc_new wA (.cells (Array.replicate P.length (Value.pointer none)) 53)
        show _ = _
        rw [this]
        simp
      have hlen : ts.length = n := by have := Ho.out.1; omega
      have Hsrc : Hid (0 < ts.length → (some (⟨wA.heap.size, 0, none⟩ : Addr) = some ⟨wA.heap.size, 0, none⟩) ∧ ∃ ad, Ap = some ad ∧ ∀ (j : Nat) (v : Value), ts[j]? = some v → (wA.alloc (.cells (Array.replicate P.length (Value.pointer none)) 53)).cell? (ad.add j) = some v) := fun h0 => by
        obtain ⟨g, cap, hv, _, hgl⟩ := Ho.out.form (by omega)
        injection hv with hAp
        refine ⟨rfl, _, hAp, fun j v hj => ?_⟩
        have h1 := Ho.out.cells (g := g) (by rw [hAp]; rfl) j v hj
        exact ((HB.out.alloc (by omega) _).cell (by rw [block_of_add]; exact hgl)).trans h1
      have Hone : Hid (∀ v ∈ ts, v.oneCell' = true) := fun v hv => by
        obtain ⟨j, hj, rfl⟩ := List.getElem_of_mem hv
        obtain ⟨t0, p0, e, _⟩ := Hts.out j _ (List.getElem?_eq_getElem hj)
        rw [e]; rfl
      have Hmin : Hid (ts.length = Nat.min n P.length) := by show _ = _; rw [hlen]; exact (Nat.min_eq_left hnp).symm
      have Hlen := Lib.hid hlen
      clear hlen
      go_wp2_with ((with_reducible refine wpList_copy_splice rfl (.tmp 32) (.tmp 34) _ _ rfl 53 Try.underlying44 (by kernel_rfl) (some ⟨wA.heap.size, 0, none⟩) Ap P.length P.length n cp rfl rfl wA.heap.size 0 (List.replicate P.length (Value.pointer none)) 53 hblk.out ts Hmin.out Hsrc.out (by rw [List.length_replicate, Hlen.out]; omega) Hone.out wA.heap.size _ (Below.refl _ _) (Nat.le_refl _) ?_); intro w2 hF2 hB2; have hbA : Below wA.heap.size wA w2 := ((Below.refl _ _).alloc (Nat.le_refl _) _).trans hB2; have hx1 : w2.cell? ⟨w.heap.size, 1, none⟩ = some (.slice An N.length cn) := (HX.out.later hbA).cell 1)
      have hF3 : Blk w2 wA.heap.size 53 (ts ++ List.replicate (P.length - n) (Value.pointer none)).toArray := by
        have := hF2.out
        rw [show splice (List.replicate P.length (Value.pointer none)) 0 ts = ts ++ List.replicate (P.length - n) (Value.pointer none) by simp [splice, List.drop_replicate, Hlen.out]] at this
        exact this
      have HbA := Lib.hid hbA
      have HF3 := Lib.hid hF3
      have hs2 := hbA.size
      have hs3 := hF3.lt
      clear hF2 hB2 hbA hF3 hblk Hmin
      obtain ⟨wB, rfl⟩ : ∃ wB : World, wB = w2 := ⟨_, rfl⟩
      go_loopw [39] (fun i wr => ∃ (k : Nat) (out : List Int) (vs : List Value), k ≤ N.length ∧ i = .int .i64 k ∧ Below w.heap.size w wr ∧ FMap wr (w.heap.size + 1) f ∧ Blk wr wA.heap.size 53 vs.toArray ∧ vs.length = P.length ∧ FlatR wr vs out ∧ Stage P n N k out ∧ wA.heap.size + 1 ≤ wr.heap.size) (fun i _ => N.length - (intOf i).toNat)
      case atStart =>
        refine ⟨0, start P n, _, by omega, rfl, HB.out.trans (HbA.out.mono (by omega)), HF.out.below HbA.out, HF3.out, by rw [List.length_append, List.length_replicate, Hlen.out]; omega, flat_start hnp Hlen.out (fun j u hu => (Hts.out j u hu).keep (NumKeep.below (HB.out.trans (HbA.out.mono (by omega))))), stage_zero P n N, by omega⟩
      case round =>
        obtain ⟨k, out, vs, hk, rfl, hbw, hf, hfl, hvl, hfr, hst, hsz3⟩ := hrel
        have HB3 := Lib.hid hbw
        have HF4 := Lib.hid hf
        have HFl := Lib.hid hfl
        have HFr := Lib.hid hfr
        have HSt := Lib.hid hst
        have Hvl := Lib.hid hvl
        by_cases hlt : k < N.length
        · obtain ⟨g, s, u, rfl, hgl, hs, c0, c1, hthk⟩ := nam_at (k := k) Hon.out rfl hlt Hxs.out
          have e0 := (hbw.cell (p := ⟨g, k * 2, none⟩) hgl).trans c0
          have e1 := (hbw.cell (p := ⟨g, k * 2 + 1, none⟩) hgl).trans c1
          have Hthk := Lib.hid (hthk.keep (NumKeep.below hbw))
          obtain ⟨pt, _, rfl, _⟩ := hthk
          have Hs := Lib.hid hs
          clear hbw hf hfl hvl hfr hst hs c0 c1
          obtain ⟨a, hp⟩ : ∃ a, place P s = some a := by
            cases hp : place P s with
            | none => have := HSt.out.no Hs.out (.inl hp); rw [HG.out] at this; cases this
            | some a => exact ⟨a, rfl⟩
          have ho : out.getD a (-1) < 0 := by
            refine Classical.byContradiction fun h => ?_
            have := HSt.out.no Hs.out (.inr ⟨a, hp, by omega⟩)
            rw [HG.out] at this; cases this
          have hap : a < P.length := (List.getElem?_eq_some_iff.1 (place_some hp)).1
          have hfs : (f s).getD (.int .i64 0) = .int .i64 a := by rw [HFi.out s a hp hap]; rfl
          have HS2 := Lib.hid (HSt.out.next Hs.out hp ho)
          obtain ⟨v0, hv0, _⟩ := HFr.out a (by rw [Hvl.out]; exact hap)
          have q0 : wr.cell? ⟨wA.heap.size, a, none⟩ = some v0 := by
            rw [HFl.out.cell a]
            simpa using hv0
          have q1 : wr.frozen? ⟨wA.heap.size, a, none⟩ = false := HFl.out.frozen a
          have z0 : (0 : Int) ≤ (a : Int) := by omega
          have z1 : (a : Int) < (P.length : Int) := by omega
          have z2 : wA.heap.size < wr.heap.size := by omega
          clear hp ho hv0
          go_wp2_with (at_lookup; refine wpList_getv _ rfl (.tmp 44) (.tmp 46) 94 rfl 71 3 Try.underlying94 Try.underlying71 (.int .i64 0) zero_int (w.heap.size + 1) f rfl (HF4.out.alloc _) s rfl ?_)
          go_roundw
          case rel =>
            refine ⟨k + 1, out.set a ((n + k : Nat) : Int), vs.set a (.pointer (some ⟨pt, 0, none⟩)), by omega, by go_num, (HB3.out.setCell (by show w.heap.size ≤ wA.heap.size; omega) _).alloc (by simp [World.setCell]; omega) _, (HF4.out.set_ (by show w.heap.size + 1 ≠ wA.heap.size; omega) _).alloc _, ?_, by rw [List.length_set]; exact Hvl.out, ?_, HS2.out, by simp [World.setCell]; omega⟩
            · have := (HFl.out.set_ a (.pointer (some ⟨pt, 0, none⟩))).alloc (.cells #[.pointer (some ⟨pt, 0, none⟩), .string s] 98)
              rwa [List.setIfInBounds_toArray] at this
            · exact (HFr.out.set_ (by rw [HSt.out.len, Hvl.out]) Hthk.out).keep ((NumKeep.set_ HFl.out (by decide) (by decide) a _).trans (NumKeep.below ((Below.refl _ _).alloc (Nat.le_refl _) _)))
          case measure => simp [intOf]; omega
        · obtain rfl : N.length = k := by omega
          obtain rfl : l = out := by
            have := HSt.out.full hnp
            rw [HG.out] at this
            injection this
          have hD3 := HD.out.later HB3.out
          have HD3 := Lib.hid hD3
          clear hbw hf hfl hvl hfr hst hD3
          go_wp2
          go_loop [54] (fun i => ∃ k : Nat, k ≤ P.length ∧ i = .int .i64 k) (fun i => P.length - (intOf i).toNat)
          case atStart => exact ⟨0, by omega, rfl⟩
          case round =>
            obtain ⟨k, hk, rfl⟩ := hrel
            by_cases hlt : k < P.length
            · obtain ⟨u, hu, hu2⟩ := HFr.out k (by rw [Hvl.out]; exact hlt)
              have q0 : wr.cell? ⟨wA.heap.size, k, none⟩ = some u := by
                rw [HFl.out.cell k]
                simpa using hu
              have q2 : wr.cell? ⟨D, k, none⟩ = some Value.nilIface := by
                rw [HD3.out.cell k]
                simp [hlt]
              have z0 : (0 : Int) ≤ (k : Int) := by omega
              have z1 : (k : Int) < (P.length : Int) := by omega
              clear hu
              rcases hu2 with ⟨_, rfl⟩ | ⟨_, pt, _, rfl, _, _⟩
              · go_wp2
                go_round
                case rel => exact ⟨k + 1, by omega, by go_num⟩
                case measure => simp [intOf]; omega
              · go_wp2
                go_round
                case rel => exact ⟨k + 1, by omega, by go_num⟩
                case measure => simp [intOf]; omega
            · go_wp2
              go_ret
              exact ⟨wA.heap.size, vs, rfl, by omega, HFl.out, Hvl.out, HFr.out, HB3.out⟩
end Go.Proofs.Ytppmdncmjcknkaa
