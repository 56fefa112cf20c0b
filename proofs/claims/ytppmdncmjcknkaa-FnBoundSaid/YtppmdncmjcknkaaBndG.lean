/-
  checkArguments. Conditions: none.
-/
import Derived.Test.YtppmdncmjcknkaaBndF
import Derived.Test.YtppmdncmjcknkaaMap
import Derived.Test.YtppmdncmjcknkaaErr
namespace Go.Proofs.Ytppmdncmjcknkaa
open Go.RowKit
set_option linter.unusedVariables false
set_option linter.unusedSimpArgs false

def Checks (w : World) (P : List ByteArray) (n : Nat) (N : List ByteArray) (e : Ending) (w' : World) : Prop :=
  (((given P n N).isSome = true ∧ e = .returned .nilIface) ∨ (given P n N = none ∧ ∃ t u, e = .returned (.iface t u))) ∧ Below w.heap.size w w'
/-- The names of the first params. -/
def Firsts (P : List ByteArray) (k : Nat) (f : ByteArray → Option Value) : Prop := ∀ s, (f s).isSome = true ↔ ∃ i, i < k ∧ P[i]? = some s
theorem firsts_zero (P : List ByteArray) : Firsts P 0 (fun _ => none) := by
  intro s
  constructor
  · intro h; cases h
  · rintro ⟨i, hi, _⟩; omega
theorem Firsts.put {P : List ByteArray} {k : Nat} {f : ByteArray → Option Value} (h : Firsts P k f) {s : ByteArray} (hs : P[k]? = some s) (v : Value) : Firsts P (k + 1) (fun x => if s = x then some v else f x) := by
  intro x
  show (if s = x then some v else f x).isSome = true ↔ _
  by_cases hx : s = x
  · subst hx
    rw [if_pos rfl]
    exact ⟨fun _ => ⟨k, by omega, hs⟩, fun _ => rfl⟩
  · rw [if_neg hx, h x]
    constructor
    · rintro ⟨i, hi, hp⟩
      exact ⟨i, by omega, hp⟩
    · rintro ⟨i, hi, hp⟩
      refine ⟨i, ?_, hp⟩
      by_cases hik : i = k
      · subst hik; rw [hs] at hp; injection hp with hp; exact absurd hp hx
      · omega
theorem Firsts.rec {P : List ByteArray} {n : Nat} {f : ByteArray → Option Value} (h : Firsts P n f) (hn : n ≤ P.length) : Rec P (start P n) (fun s => (f s).isSome) := by
  intro s
  rw [h s]
  constructor
  · rintro ⟨i, hi, hp⟩
    refine ⟨i, hp, ?_⟩
    rw [start_at (by omega), if_pos hi]; omega
  · rintro ⟨i, hp, ho⟩
    refine ⟨i, ?_, hp⟩
    rw [start_at ((List.getElem?_eq_some_iff.1 hp).1)] at ho
    split at ho <;> omega
theorem Firsts.acc {P : List ByteArray} {f : ByteArray → Option Value} (h : Firsts P P.length f) (s : ByteArray) : (f s).isSome = (place P s).isSome := by
  rw [Bool.eq_iff_iff, h s]
  constructor
  · rintro ⟨i, _, hp⟩
    cases hq : place P s with
    | none => exact absurd hp (place_none hq i)
    | some a => rfl
  · intro hq
    cases hp : place P s with
    | none => rw [hp] at hq; cases hq
    | some a => exact ⟨a, (List.getElem?_eq_some_iff.1 (place_some hp)).1, place_some hp⟩
theorem Rec.put {P : List ByteArray} {out : List Int} {f : ByteArray → Option Value} (h : Rec P out (fun s => (f s).isSome)) (hA : Apart P) (hl : out.length = P.length) {s : ByteArray} {a : Nat} (hp : place P s = some a) {x : Int} (hx : 0 ≤ x) (v : Value) :
    Rec P (out.set a x) (fun t => ((fun x => if s = x then some v else f x) t).isSome) := by
  have := h.set_ hA hl hp hx
  intro t
  rw [← this t]
  show (if s = t then some v else f t).isSome = true ↔ (if s = t then true else (f t).isSome) = true
  split <;> simp

theorem par_at {w : World} {base k m c : Nat} {A : Option Addr} {ys : List Value} {P : List ByteArray} {b : Bool} (ho : w.ownsRow base 96 2 (.slice A m c) m ys) (hm : P.length = m) (hk : k < m)
    (hys : ∀ (j : Nat) (s : ByteArray), j < m → P[j]? = some s → ∃ d, ys[j * 2]? = some d ∧ ys[j * 2 + 1]? = some (.string s) ∧ Dflt b d) :
    ∃ (g : Nat) (s : ByteArray) (d : Value), A = some ⟨g, 0, none⟩ ∧ g < w.heap.size ∧ P[k]? = some s ∧ w.cell? ⟨g, k * 2, none⟩ = some d ∧ w.cell? ⟨g, k * 2 + 1, none⟩ = some (.string s) ∧ Dflt b d := by
  obtain ⟨g, cap, hv, _, hlt⟩ := ho.form (by omega)
  injection hv with hA _ hc
  subst hA
  subst hc
  have hs : P[k]? = some P[k] := List.getElem?_eq_getElem (by omega)
  obtain ⟨d, h1, h2, h3⟩ := hys k _ hk hs
  exact ⟨g, _, d, rfl, hlt, hs, (ho.cellAt (k * 2) (by omega)).trans h1, (ho.cellAt (k * 2 + 1) (by omega)).trans h2, h3⟩
theorem nam_at {w : World} {base n k m c : Nat} {A : Option Addr} {xs : List Value} {N : List ByteArray} (ho : w.ownsRow base 98 2 (.slice A m c) m xs) (hm : N.length = m) (hk : k < m)
    (hxs : ∀ (j : Nat) (s : ByteArray), j < m → N[j]? = some s → ∃ u, xs[j * 2]? = some u ∧ xs[j * 2 + 1]? = some (.string s) ∧ Thk w u ((n + j : Nat) : Int)) :
    ∃ (g : Nat) (s : ByteArray) (u : Value), A = some ⟨g, 0, none⟩ ∧ g < w.heap.size ∧ N[k]? = some s ∧ w.cell? ⟨g, k * 2, none⟩ = some u ∧ w.cell? ⟨g, k * 2 + 1, none⟩ = some (.string s) ∧ Thk w u ((n + k : Nat) : Int) := by
  obtain ⟨g, cap, hv, _, hlt⟩ := ho.form (by omega)
  injection hv with hA _ hc
  subst hA
  subst hc
  have hs : N[k]? = some N[k] := List.getElem?_eq_getElem (by omega)
  obtain ⟨d, h1, h2, h3⟩ := hxs k _ hk hs
  exact ⟨g, _, d, rfl, hlt, hs, (ho.cellAt (k * 2) (by omega)).trans h1, (ho.cellAt (k * 2 + 1) (by omega)).trans h2, h3⟩

theorem zero_bool (W : World) : (zeroValue 4).run Try.prog W = .ok (.bool false) W := by kernel_rfl

set_option maxRecDepth 100000 in
set_option maxHeartbeats 3200000 in
theorem check_args (p n base : Nat) (vp vn pv : Value) (P N : List ByteArray) (w : World) (hI : Interp w p) (hpos : PosOk w base n vp) (hnam : NamOk w base n N.length vn N) (hpar : ParOk w base P.length pv P true)
    (hP : P.length ≤ 100) (hN : N.length ≤ 100) (hn : n ≤ 200) (hA : Apart P) :
    Calls Try.prog 28 #[.pointer (some ⟨p, 0, none⟩), .agg #[vp, vn, .bool false], pv] w (Checks w P n N) := by
  obtain ⟨ts, ho, hts⟩ := hpos
  obtain ⟨xs, hon, hxs⟩ := hnam
  obtain ⟨ys, hop, hys⟩ := hpar
  obtain ⟨Ap, cp, rfl, hcp⟩ := own_form ho
  obtain ⟨An, cn, rfl, hcn⟩ := own_form hon
  obtain ⟨Aq, cq, rfl, hcq⟩ := own_form hop
  have hmm := fun (n : Int) (W : World) => run_makeMap_hint (P := Try.prog) 120 71 4 .i64 n Try.underlying120 W
  have HI := Lib.hid hI
  have Hon := Lib.hid hon
  have Hxs := Lib.hid hxs
  have Hop := Lib.hid hop
  have Hys := Lib.hid hys
  have HA := Lib.hid hA
  clear ho hts hon hxs hop hys hI hA
  by_cases hnp : n ≤ P.length
  · have d0 : decide ((P.length : Int) < (n : Int)) = false := decide_eq_false (by omega)
    have d1 : decide (P.length < n) = false := decide_eq_false (by omega)
    go_enter Try.func28, Try.ntmps28
    go_wp2
    go_loopw [42] (fun i wr => ∃ (k : Nat) (f : ByteArray → Option Value), k ≤ P.length ∧ i = .int .i64 k ∧ Below w.heap.size w wr ∧ Blk wr w.heap.size 48 #[.slice Ap n cp, .slice An N.length cn, .bool false] ∧ FMap wr (w.heap.size + 1) f ∧ Firsts P k f ∧ w.heap.size + 2 ≤ wr.heap.size) (fun i _ => P.length - (intOf i).toNat)
    case atStart =>
      refine ⟨0, fun _ => none, by omega, rfl, ((Below.refl _ _).alloc (Nat.le_refl _) _).alloc (by simp) _, (Blk.new w 48 #[.slice Ap n cp, .slice An N.length cn, .bool false]).alloc _, ?_, firsts_zero P, by simp⟩
      have := FMap.new (w.alloc (.cells #[.slice Ap n cp, .slice An N.length cn, .bool false] 48))
      simpa using this
    case round =>
      obtain ⟨k, f, hk, rfl, hbw, hbx, hf, hfi, hsz⟩ := hrel
      have HB := Lib.hid hbw
      have HX := Lib.hid hbx
      have HF := Lib.hid hf
      have HFi := Lib.hid hfi
      by_cases hlt : k < P.length
      · obtain ⟨g, s, d, rfl, hgl, hs, c0, c1, hd⟩ := par_at Hop.out rfl hlt Hys.out
        have e0 := (hbw.cell (p := ⟨g, k * 2, none⟩) hgl).trans c0
        have e1 := (hbw.cell (p := ⟨g, k * 2 + 1, none⟩) hgl).trans c1
        obtain ⟨pd, rfl⟩ := hd
        have Hs := Lib.hid hs
        clear hbw hbx hf hfi hs c0 c1
        go_wp2_with (at_mapUpdate; refine wpList_put _ rfl (.tmp 46) (.tmp 48) (.const (.bool true)) 120 rfl 71 4 Try.underlying120 Try.underlying71 (w.heap.size + 1) f rfl (HF.out.alloc _) s (.bool true) rfl rfl ?_; intro w2 hf2 hg2)
        have hs2 := hg2.size
        simp at hs2
        have HB2 := Lib.hid (((HB.out.trans ((((Below.refl _ _).alloc (Nat.le_refl _) _).mono HB.out.size))).grown hg2 (by simp; omega) (fun a ha => by injection ha; omega)))
        have HX2 := Lib.hid (blk_grown hg2 (HX.out.alloc _) (by simp))
        have HF2 := Lib.hid hf2
        have HFi2 := Lib.hid (HFi.out.put Hs.out (.bool true))
        clear hf2 hg2
        go_wp2
        go_roundw
        case rel => exact ⟨k + 1, _, by omega, by go_num, HB2.out, HX2.out, HF2.out, HFi2.out, by omega⟩
        case measure => simp [intOf]; omega
      · obtain rfl : k = P.length := by omega
        clear hbw hbx hf hfi
        have hx0 : wr.cell? ⟨w.heap.size, 0, none⟩ = some (.slice Ap n cp) := HX.out.cell 0
        have hx1 : wr.cell? ⟨w.heap.size, 1, none⟩ = some (.slice An N.length cn) := HX.out.cell 1
        have hl0 : w.heap.size < wr.heap.size := by omega
        obtain ⟨wA, rfl⟩ : ∃ wA : World, wA = wr := ⟨_, rfl⟩
        go_wp2
        go_loopw [57] (fun i wr => ∃ (k : Nat) (r : ByteArray → Option Value), k ≤ n ∧ i = .int .i64 k ∧ Below w.heap.size w wr ∧ Blk wr w.heap.size 48 #[.slice Ap n cp, .slice An N.length cn, .bool false] ∧ FMap wr (w.heap.size + 1) f ∧ FMap wr wA.heap.size r ∧ Firsts P k r ∧ wA.heap.size + 1 ≤ wr.heap.size) (fun i _ => n - (intOf i).toNat)
        case atStart => exact ⟨0, fun _ => none, by omega, rfl, HB.out.alloc (by omega) _, HX.out.alloc _, HF.out.alloc _, FMap.new wA, firsts_zero P, by simp⟩
        case round =>
          obtain ⟨k, r, hk, rfl, hbw, hbx, hf, hr, hfr, hsz2⟩ := hrel
          have HB1 := Lib.hid hbw
          have HX1 := Lib.hid hbx
          have HF1 := Lib.hid hf
          have HR1 := Lib.hid hr
          have HFr := Lib.hid hfr
          by_cases hlt : k < n
          · obtain ⟨g, s, d, rfl, hgl, hs, c0, c1, hd⟩ := par_at (k := k) Hop.out rfl (by omega) Hys.out
            have e1 := (hbw.cell (p := ⟨g, k * 2 + 1, none⟩) hgl).trans c1
            have Hs := Lib.hid hs
            have z1 : (k : Int) < (P.length : Int) := by omega
            clear hbw hbx hf hr hfr hs c0 c1 hd
            go_wp2_with (at_mapUpdate; refine wpList_put _ rfl (.tmp 60) (.tmp 65) (.const (.bool true)) 120 rfl 71 4 Try.underlying120 Try.underlying71 wA.heap.size r rfl HR1.out s (.bool true) rfl rfl ?_; intro w2 hf2 hg2)
            have hs2 := hg2.size
            have HB2 := Lib.hid (HB1.out.grown hg2 HB1.out.size (fun a ha => by injection ha; omega))
            have HX2 := Lib.hid (blk_grown hg2 HX1.out (by simp; omega))
            have HF2 := Lib.hid (HF1.out.grown hg2 (by simp; omega))
            have HR2 := Lib.hid hf2
            have HFr2 := Lib.hid (HFr.out.put Hs.out (.bool true))
            clear hf2 hg2
            go_wp2
            go_roundw
            case rel => exact ⟨k + 1, _, by omega, by go_num, HB2.out, HX2.out, HF2.out, HR2.out, HFr2.out, by omega⟩
            case measure => simp [intOf]; omega
          · obtain rfl : n = k := by omega
            clear hbw hbx hf hr hfr
            have hx1 : wr.cell? ⟨w.heap.size, 1, none⟩ = some (.slice An N.length cn) := HX1.out.cell 1
            go_wp2
            obtain ⟨wB, rfl⟩ : ∃ wB : World, wB = wr := ⟨_, rfl⟩
            go_loopw [70] (fun i wr => ∃ (k : Nat) (r : ByteArray → Option Value) (out : List Int), k ≤ N.length ∧ i = .int .i64 k ∧ Below w.heap.size w wr ∧ FMap wr (w.heap.size + 1) f ∧ FMap wr wA.heap.size r ∧ Stage P n N k out ∧ Rec P out (fun s => (r s).isSome) ∧ wA.heap.size + 1 ≤ wr.heap.size) (fun i _ => N.length - (intOf i).toNat)
            case atStart => exact ⟨0, r, start P n, by omega, rfl, HB1.out, HF1.out, HR1.out, stage_zero P n N, HFr.out.rec hnp, hsz2⟩
            case round =>
              obtain ⟨k, r3, out, hk, rfl, hbw, hf, hr, hst, hrec, hsz3⟩ := hrel
              have HB3 := Lib.hid hbw
              have HF3 := Lib.hid hf
              have HR3 := Lib.hid hr
              have HSt := Lib.hid hst
              have HRec := Lib.hid hrec
              by_cases hlt : k < N.length
              · obtain ⟨g, s, u, rfl, hgl, hs, c0, c1, hthk⟩ := nam_at (k := k) Hon.out rfl hlt Hxs.out
                have e0 := (hbw.cell (p := ⟨g, k * 2, none⟩) hgl).trans c0
                have e1 := (hbw.cell (p := ⟨g, k * 2 + 1, none⟩) hgl).trans c1
                obtain ⟨pt, _, rfl, _⟩ := hthk
                have Hs := Lib.hid hs
                clear hbw hf hr hst hrec hs c0 c1
                cases hp : place P s with
                | none =>
                  have h1 : (r3 s).isSome = false := HRec.out.none_ hp
                  have h2 : (f s).isSome = false := by rw [HFi.out.acc s, hp]; rfl
                  have HG : Hid (given P n N = none) := HSt.out.no Hs.out (.inl hp)
                  clear hp
                  go_wp2_with (first | (at_lookup; refine wpList_getok _ rfl (.tmp 75) (.tmp 77) 120 rfl 71 4 Try.underlying120 Try.underlying71 (.bool false) zero_bool (wA.heap.size) r3 rfl (HR3.out.alloc _) s rfl ?_) | (at_lookup; refine wpList_getok _ rfl (.tmp 85) (.tmp 87) 120 rfl 71 4 Try.underlying120 Try.underlying71 (.bool false) zero_bool (w.heap.size + 1) f rfl (HF3.out.alloc _) s rfl ?_))
                  go_at_call 35
                  refine (err_any p _ _ ((HI.out.below HB3.out).below ((Below.refl _ _).alloc (Nat.le_refl _) _))).mono ?_
                  rintro e' w1 ⟨⟨t, u, rfl⟩, hb⟩
                  have HE := Lib.hid ((HB3.out.alloc HB3.out.size _).trans (hb.mono (by have := HB3.out.size; simp; omega)))
                  clear hb
                  go_wp2
                  go_ret
                  exact ⟨.inr ⟨HG.out, _, _, rfl⟩, HE.out⟩
                | some a =>
                  have hra := HRec.out.at_ HA.out hp
                  have h2 : (f s).isSome = true := by rw [HFi.out.acc s, hp]; rfl
                  have Hp := Lib.hid hp
                  by_cases ho : 0 ≤ out.getD a (-1)
                  · have h1 : (r3 s).isSome = true := hra.trans (decide_eq_true ho)
                    have HG : Hid (given P n N = none) := HSt.out.no Hs.out (.inr ⟨a, hp, ho⟩)
                    clear hp hra ho
                    go_wp2_with (first | (at_lookup; refine wpList_getok _ rfl (.tmp 75) (.tmp 77) 120 rfl 71 4 Try.underlying120 Try.underlying71 (.bool false) zero_bool (wA.heap.size) r3 rfl (HR3.out.alloc _) s rfl ?_))
                    go_at_call 35
                    refine (err_any p _ _ ((HI.out.below HB3.out).below ((Below.refl _ _).alloc (Nat.le_refl _) _))).mono ?_
                    rintro e' w1 ⟨⟨t, u, rfl⟩, hb⟩
                    have HE := Lib.hid ((HB3.out.alloc HB3.out.size _).trans (hb.mono (by have := HB3.out.size; simp; omega)))
                    clear hb
                    go_wp2
                    go_ret
                    exact ⟨.inr ⟨HG.out, _, _, rfl⟩, HE.out⟩
                  · have h1 : (r3 s).isSome = false := hra.trans (decide_eq_false ho)
                    have HS2 := Lib.hid (HSt.out.next Hs.out hp (by omega))
                    have HRec2 := Lib.hid (HRec.out.put HA.out HSt.out.len hp (x := ((n + k : Nat) : Int)) (by omega) (.bool true))
                    clear hp hra ho
                    go_wp2_with (first | (at_lookup; refine wpList_getok _ rfl (.tmp 75) (.tmp 77) 120 rfl 71 4 Try.underlying120 Try.underlying71 (.bool false) zero_bool (wA.heap.size) r3 rfl (HR3.out.alloc _) s rfl ?_) | (at_lookup; refine wpList_getok _ rfl (.tmp 85) (.tmp 87) 120 rfl 71 4 Try.underlying120 Try.underlying71 (.bool false) zero_bool (w.heap.size + 1) f rfl (HF3.out.alloc _) s rfl ?_) | (at_mapUpdate; refine wpList_put _ rfl (.tmp 95) (.tmp 97) (.const (.bool true)) 120 rfl 71 4 Try.underlying120 Try.underlying71 wA.heap.size r3 rfl (HR3.out.alloc _) s (.bool true) rfl rfl ?_; intro w2 hf2 hg2))
                    have hs2 := hg2.size
                    simp at hs2
                    have HB4 := Lib.hid ((HB3.out.alloc HB3.out.size _).grown hg2 (by have := HB3.out.size; simp; omega) (fun a ha => by injection ha; omega))
                    have HF4 := Lib.hid ((HF3.out.alloc _).grown hg2 (by simp; omega))
                    have HR4 := Lib.hid hf2
                    clear hf2 hg2
                    go_wp2
                    go_roundw
                    case rel => exact ⟨k + 1, _, _, by omega, by go_num, HB4.out, HF4.out, HR4.out, HS2.out, HRec2.out, by omega⟩
                    case measure => simp [intOf]; omega
              · obtain rfl : k = N.length := by omega
                have HG := Lib.hid (hst.full hnp)
                clear hbw hf hr hst hrec
                go_wp2
                obtain ⟨wC, rfl⟩ : ∃ wC : World, wC = wr := ⟨_, rfl⟩
                go_loopw [101] (fun i wr => ∃ k : Nat, k ≤ P.length ∧ i = .int .i64 k ∧ Below w.heap.size w wr ∧ FMap wr wA.heap.size r3) (fun i _ => P.length - (intOf i).toNat)
                case atStart => exact ⟨0, by omega, rfl, HB3.out, HR3.out⟩
                case round =>
                  obtain ⟨k, hk, rfl, hbw, hr⟩ := hrel
                  have HB5 := Lib.hid hbw
                  have HR5 := Lib.hid hr
                  by_cases hlt : k < P.length
                  · obtain ⟨g, s, d, rfl, hgl, hs, c0, c1, hd⟩ := par_at (k := k) Hop.out rfl hlt Hys.out
                    have e0 := (hbw.cell (p := ⟨g, k * 2, none⟩) hgl).trans c0
                    have e1 := (hbw.cell (p := ⟨g, k * 2 + 1, none⟩) hgl).trans c1
                    obtain ⟨pd, rfl⟩ := hd
                    have HB6 := Lib.hid (hbw.alloc hbw.size (.cells #[.iface 101 (.pointer (some pd)), .string s] 96))
                    clear hbw hr hs c0 c1
                    cases hpre : (r3 s).isSome
                    all_goals
                      go_wp2_with (at_lookup; refine wpList_getok _ rfl (.tmp 106) (.tmp 108) 120 rfl 71 4 Try.underlying120 Try.underlying71 (.bool false) zero_bool wA.heap.size r3 rfl (HR5.out.alloc _) s rfl ?_)
                      go_roundw
                      case rel => exact ⟨k + 1, by omega, by go_num, HB6.out, HR5.out.alloc _⟩
                      case measure => simp [intOf]; omega
                  · obtain rfl : P.length = k := by omega
                    clear hbw hr
                    go_wp2
                    go_ret
                    exact ⟨.inl ⟨by rw [HG.out]; rfl, rfl⟩, HB5.out⟩
  · have d0 : decide ((P.length : Int) < (n : Int)) = true := decide_eq_true (by omega)
    have d1 : decide (P.length < n) = true := decide_eq_true (by omega)
    have HG : Hid (given P n N = none) := if_neg hnp
    clear hnp
    go_enter Try.func28, Try.ntmps28
    go_wp2_with fail
    go_at_call 35
    refine (err_any p _ _ (HI.out.below ((Below.refl _ _).alloc (Nat.le_refl _) _))).mono ?_
    rintro e' w1 ⟨⟨t, u, rfl⟩, hb⟩
    have HB := Lib.hid (((Below.refl w.heap.size w).alloc (Nat.le_refl _) _).trans (hb.mono (by simp)))
    clear hb
    go_wp2
    go_ret
    exact ⟨.inr ⟨HG.out, _, _, rfl⟩, HB.out⟩
end Go.Proofs.Ytppmdncmjcknkaa
