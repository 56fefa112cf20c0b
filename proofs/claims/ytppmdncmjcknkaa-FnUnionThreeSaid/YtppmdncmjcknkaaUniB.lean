/-
  PartUnion. Conditions: none.
-/
import Derived.Test.YtppmdncmjcknkaaUniA
namespace Go.Proofs.Ytppmdncmjcknkaa
open Go.RowKit
set_option linter.unusedVariables false
set_option linter.unusedSimpArgs false

theorem NumKeep.iter {w w' : World} {r b n cnt : Nat} {f : ByteArray → Option Value} {D : List ByteArray} (h : Rit w r b n f D cnt) (hg : w.grownBy w' (some r)) : NumKeep w w' := by
  obtain ⟨_, _, _, _, _, _, _, _, _, _, _, _, _, h8, _⟩ := h
  intro g t cs _ hb
  refine hb.grown hg (fun h => ?_)
  injection h with h
  subst h
  unfold Blk at hb
  rw [h8] at hb
  cases hb
theorem TMap.add {w : World} {b n : Nat} {f fa fb : ByteArray → Option Value} {Ga Gb : ByteArray → Option Int} (h : RMap w b n f) (hf : ∀ s, f s = (fb s).or (fa s))
    (ha : ∀ s, (Ga s = none → fa s = none) ∧ ∀ x, Ga s = some x → ∃ v, fa s = some v ∧ Thk w v x) (hb : ∀ s, (Gb s = none → fb s = none) ∧ ∀ x, Gb s = some x → ∃ v, fb s = some v ∧ Thk w v x) :
    TMap w b n (fun s => (Gb s).or (Ga s)) := by
  refine ⟨f, h, fun s => ?_⟩
  rw [hf s]
  show ((Gb s).or (Ga s) = none → _) ∧ ∀ x, (Gb s).or (Ga s) = some x → _
  cases hgb : Gb s with
  | some y =>
    obtain ⟨v, h1, h2⟩ := (hb s).2 y hgb
    refine ⟨(fun e => by cases e), fun x hx => ⟨v, by rw [h1]; rfl, ?_⟩⟩
    have : y = x := by simpa using hx
    subst this
    exact h2
  | none =>
    rw [(hb s).1 hgb]
    refine ⟨fun e => (ha s).1 (by simpa using e), fun x hx => ?_⟩
    obtain ⟨v, h1, h2⟩ := (ha s).2 x (by simpa using hx)
    exact ⟨v, by rw [h1]; rfl, h2⟩
set_option maxRecDepth 100000 in
theorem conv_some {y : Nat} {x : Int} (h : floatToIntVal .f64 y .i64 = some x) (w : World) : (convert 56 3 (.float .f64 y)).run Try.prog w = .ok (.int .i64 x) w := by
  unfold floatToIntVal at h
  have hs : Try.prog.underlying 56 = some (.float .f64) := Try.underlying56
  split at h
  · rename_i m he
    split at h
    · rename_i hb
      injection h with h
      subst h
      simp only [convert, run_underlying hs, run_underlying Try.underlying3, Conv.floatToInt, he, Sem.run_bind, Result.andThen, if_pos hb, Sem.run_pure]
    · cases h
  · cases h
def intv (G : ByteArray → Option Int) : ByteArray → Option Value := fun s => (G s).map (Value.int .i64)
def PuTo (w : World) (n : Nat) (G : ByteArray → Option Int) (e : Ending) (w' : World) : Prop := ∃ b, e = .returned (.map (some b)) ∧ RMap w' b n (intv G) ∧ Below w.heap.size w w'
theorem prs_bound {ns : List ByteArray} (h : ns.length ≤ 1000) {s : ByteArray} {x : Int} (hx : look (prs ns 0) s = some x) : 0 ≤ x ∧ x < ns.length := by
  obtain ⟨j, h1, h2⟩ := prs_at (look_in hx)
  have := (List.getElem?_eq_some_iff.1 h1).1
  omega
set_option maxRecDepth 100000 in
set_option maxHeartbeats 2000000 in
theorem part_any (A B : Option Addr) (c d : Nat) (xs ys : List ByteArray) (w : World) (ha : Reads w w.heap.size 1 A xs.length (strs xs)) (hb : Reads w w.heap.size 1 B ys.length (strs ys)) (hla : xs.length ≤ 400) (hlb : ys.length ≤ 400) :
    Calls Try.prog 16 #[.slice A xs.length c, .slice B ys.length d] w (PuTo w (xs.length + ys.length) (look (prs (xs ++ ys) 0))) := by
  have HA := Lib.hid ha
  have HB := Lib.hid hb
  have hmi := make_ints
  have HGB : Hid (∀ s x, look (prs (xs ++ ys) 0) s = some x → 0 ≤ x ∧ x ≤ 1000) := fun s x h => by
    have hl : (xs ++ ys).length ≤ 1000 := by rw [List.length_append]; omega
    have := prs_bound hl h
    omega
  have HGE : Hid (∀ s, look (prs (xs ++ ys) 0) s = (look (prs ys xs.length) s).or (look (prs xs 0) s)) := fun s => by
    rw [prs_append, look_append]
    simp
  generalize look (prs (xs ++ ys) 0) = G at HGB HGE ⊢
  clear ha hb
  go_enter Try.func16, Try.ntmps16
  go_wp2_with fail
  have hb0 : Below w.heap.size w (w.alloc (.map #[] 0)) := (Below.refl _ _).alloc (Nat.le_refl _) _
  have HB0 := Lib.hid hb0
  have HM0 := Lib.hid (RMap.new w 0)
  clear hb0
  go_at_call 24
  refine (frame_any A c xs 0 _ ((HA.out.below HB0.out).more HB0.out.size) (by omega) (by omega)).mono ?_
  rintro e w1 ⟨p, rfl, hta, hb1⟩
  have HTA := Lib.hid hta
  have HB1 := Lib.hid (HB0.out.trans (hb1.mono (by simp)))
  have HM1 := Lib.hid (HM0.out.below hb1)
  have hs1 := HB1.out.size
  clear hta hb1
  go_wp2_with fail
  go_at_call 24
  refine (frame_any B d ys xs.length w1 ((HB.out.below HB1.out).more hs1) (by omega) (by omega)).mono ?_
  rintro e w2 ⟨q, rfl, htb, hb2⟩
  have HTB := Lib.hid htb
  have HTA2 := Lib.hid (HTA.out.below hb2)
  have HB2 := Lib.hid (HB1.out.trans (hb2.mono hs1))
  have HM2 := Lib.hid (HM1.out.below hb2)
  have hs2 := HB2.out.size
  obtain ⟨fa, hfa, hga⟩ := HTA2.out
  obtain ⟨fb, hfb, hgb⟩ := HTB.out
  have HFA := Lib.hid hfa
  have HFB := Lib.hid hfb
  have HGA := Lib.hid hga
  have HGB2 := Lib.hid hgb
  clear htb hb2 hfa hfb hga hgb
  go_wp2_with fail
  go_at_call 23
  refine (add_any p q xs.length ys.length fa fb w2 HFA.out HFB.out).mono ?_
  rintro e w3 ⟨b3, rfl, hq3, hm3, hb3⟩
  have HT3 : Hid (TMap w3 b3 (xs.length + ys.length) G) := by
    have := TMap.add (Ga := look (prs xs 0)) (Gb := look (prs ys xs.length)) hm3 (fun s => rfl) (fun s => ⟨(HGA.out s).1, fun x hx => by
      obtain ⟨v, h1, h2⟩ := (HGA.out s).2 x hx
      exact ⟨v, h1, h2.keep (NumKeep.below hb3)⟩⟩) (fun s => ⟨(HGB2.out s).1, fun x hx => by
      obtain ⟨v, h1, h2⟩ := (HGB2.out s).2 x hx
      exact ⟨v, h1, h2.keep (NumKeep.below hb3)⟩⟩)
    rw [show G = _ from funext HGE.out]
    exact this
  have HB3 := Lib.hid (HB2.out.trans (hb3.mono hs2))
  have HM3 := Lib.hid (HM2.out.below hb3)
  have hs3 := HB3.out.size
  obtain ⟨f, hf, hfg⟩ := HT3.out
  have HF := Lib.hid hf
  have HFG := Lib.hid hfg
  clear hm3 hb3 hf hfg
  go_wp2_with (at_range; refine wpList_rrange _ rfl (.tmp 15) 68 rfl _ _ Try.underlying68 b3 (xs.length + ys.length) f rfl HF.out ?_; intro w4 cnt4 hr4 hb4 hs4)
  have HR4 := Lib.hid hr4
  have HM4 := Lib.hid (HM3.out.below hb4)
  have HB4 := Lib.hid (HB3.out.trans (hb4.mono hs3))
  have HFG4 : Hid (∀ s, (G s = none → f s = none) ∧ ∀ x, G s = some x → ∃ v, f s = some v ∧ Thk w4 v x) := fun s => ⟨(HFG.out s).1, fun x hx => by
    obtain ⟨v, h1, h2⟩ := (HFG.out s).2 x hx
    exact ⟨v, h1, h2.keep (NumKeep.below hb4)⟩⟩
  have hlm := HM3.out.lt
  have hlf := HF.out.lt
  have hwm : w.heap.size < w3.heap.size := hlm
  have hb3s : w.heap.size < b3 := by have := HM2.out.lt; omega
  have hw4 : w3.heap.size + 1 = w4.heap.size := hs4.symm
  clear hr4 hb4 hs4
  go_frame
  go_loopw [6] (fun _ wr => ∃ (D : List ByteArray) (cnt : Nat) (h : ByteArray → Option Value), Rit wr w3.heap.size b3 (xs.length + ys.length) f D cnt ∧ RMap wr w.heap.size D.length h ∧ Met D (intv G) (fun _ => none) h ∧ Below w.heap.size w wr ∧ NumKeep w4 wr ∧ w4.heap.size ≤ wr.heap.size) (fun _ wr => wr.rangeLeft b3 w3.heap.size)
  case atStart => exact ⟨[], _, _, HR4.out, HM4.out, Met.nil _ _, HB4.out, fun _ _ _ _ h => h, Nat.le_refl _⟩
  case round =>
    obtain ⟨D, cnt, h, hr, hm, hmet, hbw, hnk, hsz⟩ := hrel
    obtain ⟨wo, rfl⟩ : ∃ wo : World, wo = wr := ⟨_, rfl⟩
    have HR := Lib.hid hr
    have HM := Lib.hid hm
    have HMet := Lib.hid hmet
    have HB := Lib.hid hbw
    have HNK := Lib.hid hnk
    clear hr hm hmet hbw hnk
    have HTH : Hid (∀ s v (w2 : World), f s = some v → NumKeep wo w2 → ∃ x, G s = some x ∧ (0 ≤ x ∧ x ≤ 1000) ∧ Thk w2 v x) := fun s v w2 hs hk2 => by
      cases hg : G s with
      | none => have := (HFG4.out s).1 hg; rw [this] at hs; cases hs
      | some x =>
        obtain ⟨v', h1, h2⟩ := (HFG4.out s).2 x hg
        rw [h1] at hs
        injection hs with hs
        subst hs
        exact ⟨x, rfl, HGB.out s x hg, (h2.keep HNK.out).keep hk2⟩
    go_wp2_with (first
      | (at_next; refine wpList_rnext _ rfl (.tmp 16) rfl b3 w3.heap.size (xs.length + ys.length) f D cnt rfl HR.out (fun hl => ?_) (fun s v w2 cnt2 hx hen => ?_); rotate_left; obtain ⟨x, hgx, ⟨hx0, hx1⟩, pt, pp, rfl, hb1, hb2⟩ := HTH.out s v w2 hx.out.1 (NumKeep.iter HR.out hx.out.2.2.2.2.1); have hcv := fun (w : World) => conv_some (int_back x (by omega)) w; have q1 : w2.cell? ⟨pt, 2, none⟩ = some (.iface 59 (.pointer (some ⟨pp, 0, none⟩))) := hb1.cell 2; have q2 : w2.cell? ⟨pp, 0, none⟩ = some (.float .f64 (floatOfInt .f64 x)) := hb2.cell 0; have hta : ∀ w, (Instr.typeAssert (.iface 59 (.pointer (some ⟨pp, 0, none⟩))) 64 59 false).run Try.prog w = .ok (.pointer (some ⟨pp, 0, none⟩)) w := (fun _ => by kernel_rfl); have HGX := Lib.hid hgx; clear hb1 hb2 hgx; rotate_left)
      | (at_mapUpdate; refine wpList_rput _ rfl (.tmp 22) (.tmp 23) (.tmp 32) 37 rfl 9 3 Try.underlying37 Try.underlying9 w.heap.size D.length h rfl (HM.out.grown hx.out.2.2.2.2.1 (by intro e; injection e; omega)) s (.int .i64 x) rfl rfl ?_; intro w3' hm3 hg3))
    · have HME : Hid (∀ s, h s = intv G s) := fun s => by
        have := HMet.out.full (fun s hs => hl.out s ?_) (fun s hs => ?_) s
        · rw [this]
          cases intv G s <;> rfl
        · cases hg : G s with
          | none => unfold intv at hs; rw [hg] at hs; cases hs
          | some x =>
            obtain ⟨v, h1, _⟩ := (HFG4.out s).2 x hg
            rw [h1]; rfl
        · have := HR.out.has s hs
          cases hg : G s with
          | none => rw [(HFG4.out s).1 hg] at this; cases this
          | some x => unfold intv; rw [hg]; rfl
      have hDn := HR.out.len
      clear hl
      go_wp2
      go_ret
      exact ⟨_, rfl, (HM.out.more hDn).eq_ HME.out, HB.out⟩
    · have HX := Lib.hid hx.out
      have hs2 := HX.out.2.2.2.2.2
      have HR3 := Lib.hid (HX.out.2.2.1.kept hg3 (by intro e; injection e; omega) (by intro e; injection e; omega))
      have HN3 := Lib.hid ((HNK.out.trans (NumKeep.iter HR.out HX.out.2.2.2.2.1)).trans ((HM.out.grown HX.out.2.2.2.2.1 (by intro e; injection e; omega)).keepNum hg3))
      have HM3 := Lib.hid hm3
      have HB3 := Lib.hid ((HB.out.grown HX.out.2.2.2.2.1 (by omega) (fun a ha => by injection ha; omega)).grown hg3 (by omega) (fun a ha => by injection ha; omega))
      have HMet3 := Lib.hid (HMet.out.step (v := .int .i64 x) (by unfold intv; rw [HGX.out]; rfl) : Met (D ++ [s]) (intv G) (fun _ => none) _)
      have hle := HR.out.left_eq
      have hle3 := HR3.out.left_eq
      have hlt3 := HX.out.2.2.2.1
      have HLE : Hid (w3'.rangeLeft b3 w3.heap.size < wo.rangeLeft b3 w3.heap.size) := Lib.hid (by rw [hle, hle3]; exact hlt3)
      have hs3' := hg3.size
      clear hx hm3 hg3 hen hle hle3 hlt3
      go_frame
      go_wp2
      go_roundw
      case rel => exact ⟨D ++ [s], _, _, HR3.out, (by rw [List.length_append]; exact HM3.out), HMet3.out, HB3.out, HN3.out, by omega⟩
      case measure => exact HLE.out
end Go.Proofs.Ytppmdncmjcknkaa
