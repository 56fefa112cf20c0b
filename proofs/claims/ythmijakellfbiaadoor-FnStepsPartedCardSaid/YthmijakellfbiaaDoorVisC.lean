/-
  How the fields of an object made of objects are seen. Conditions: none.
-/
import Derived.Test.YthmijakellfbiaaDoorVisB
namespace Go.Proofs.YthmijakellfbiaaDoor
open Go.RowKit
set_option linter.unusedVariables false
set_option linter.unusedSimpArgs false

/-- Objects: flat ones, with another one to the right, with a field taken out. -/
inductive OT where
  | simp (n : Nat) (G : ByteArray → Option Int)
  | ext (o : OT) (n : Nat) (G : ByteArray → Option Int)
  | res (o : OT) (n : Nat) (G : ByteArray → Option Int)
def sz : OT → Nat
  | .simp _ _ => 1
  | .ext o _ _ => sz o + 1
  | .res o _ _ => sz o + 1
def cnt : OT → Nat
  | .simp n _ => n
  | .ext o n _ => cnt o + n
  | .res _ n _ => n
/-- A field that inherits how it is seen leaves this as it was. -/
def comb (A B : ByteArray → Option Int) : ByteArray → Option Int := fun s =>
  match B s with
  | none => A s
  | some h => if h = 1 then (match A s with | some x => some x | none => some h) else some h
def vis : OT → ByteArray → Option Int
  | .simp _ G => G
  | .ext o _ G => comb (vis o) G
  | .res _ _ G => G
/-- The object lies there. -/
def Obt (w : World) : OT → Value → Prop
  | .simp n G, v => SimR w v n G
  | .ext o n G, v => ∃ (p : Nat) (l r : Value), v = .iface 90 (.pointer (some ⟨p, 0, none⟩)) ∧ Blk w p 92 #[l, r, .int .i64 ((sz o + 1 : Nat) : Int)] ∧ Obt w o l ∧ SimR w r n G
  | .res o n G, v => ∃ (p b : Nat) (l : Value), v = .iface 88 (.pointer (some ⟨p, 0, none⟩)) ∧ Blk w p 87 #[l, .map (some b)] ∧ Obt w o l ∧ RMap w b n (intv G)
theorem Obt.below {w w' : World} (hb : Below w.heap.size w w') : ∀ {o : OT} {v : Value}, Obt w o v → Obt w' o v
  | .simp n G, _, h => SimR.below h hb
  | .ext o n G, _, h => by
    obtain ⟨p, l, r, e, h1, h2, h3⟩ := h
    exact ⟨p, l, r, e, h1.later hb, Obt.below hb h2, h3.below hb⟩
  | .res o n G, _, h => by
    obtain ⟨p, b, l, e, h1, h2, h3⟩ := h
    exact ⟨p, b, l, e, h1.later hb, Obt.below hb h2, h3.below hb⟩
theorem Obt.ptr {w : World} : ∀ {o : OT} {v : Value}, Obt w o v → ∃ T p, v = .iface T (.pointer (some ⟨p, 0, none⟩))
  | .simp n G, _, h => by
    obtain ⟨p, _, e, _⟩ := h
    exact ⟨_, _, e⟩
  | .ext o n G, _, h => by
    obtain ⟨p, _, _, e, _⟩ := h
    exact ⟨_, _, e⟩
  | .res o n G, _, h => by
    obtain ⟨p, _, _, e, _⟩ := h
    exact ⟨_, _, e⟩
set_option maxRecDepth 100000 in
set_option maxHeartbeats 1000000 in
theorem visRes_any (p b n : Nat) (l : Value) (G : ByteArray → Option Int) (w : World) (hb : Blk w p 87 #[l, .map (some b)]) (hm : RMap w b n (intv G)) :
    Calls Tryd.prog 35 #[.iface 88 (.pointer (some ⟨p, 0, none⟩))] w (VisTo w n G) := by
  have hmk := make_hides
  have t1 : ∀ w, (Instr.typeAssert (.iface 88 (.pointer (some ⟨p, 0, none⟩))) 58 90 true).run Tryd.prog w = .ok (.tuple #[.pointer none, .bool false]) w := fun _ => by kernel_rfl
  have t2 : ∀ w, (Instr.typeAssert (.iface 88 (.pointer (some ⟨p, 0, none⟩))) 58 88 true).run Tryd.prog w = .ok (.tuple #[.pointer (some ⟨p, 0, none⟩), .bool true]) w := fun _ => by kernel_rfl
  have c1 : w.cell? ⟨p, 1, none⟩ = some (.map (some b)) := hb.cell 1
  have hp := hb.lt
  have hbw := hm.lt
  have HM := Lib.hid hm
  clear hb hm
  go_enter Tryd.func35, Tryd.ntmps35
  go_wp2_with (at_range; refine wpList_rrange _ rfl (.tmp 61) 85 rfl _ _ Tryd.underlying85 b n (intv G) rfl (HM.out.alloc _) ?_; intro w1 cnt1 hr1 hb1 hs1)
  have e1 : (w.alloc (Obj.map #[] 0)).heap.size = w.heap.size + 1 := by simp
  rw [e1] at hr1 hb1 hs1
  have HR1 := Lib.hid hr1
  have HB1 := Lib.hid (((Below.refl w.heap.size w).alloc (Nat.le_refl _) (.map #[] 0)).trans (hb1.mono (by simp)))
  have HM1 := Lib.hid ((RMap.new w 0).below (by rw [e1]; exact hb1))
  clear hr1 hb1
  go_frame
  simp only [e1]
  clear e1
  go_loopw [11] (fun _ wr => ∃ (D : List ByteArray) (cnt : Nat) (h : ByteArray → Option Value), Rit wr (w.heap.size + 1) b n (intv G) D cnt ∧ RMap wr w.heap.size D.length h ∧ Met D (intv G) (fun _ => none) h ∧ Below w.heap.size w wr) (fun _ wr => wr.rangeLeft b (w.heap.size + 1))
  case atStart => exact ⟨[], _, _, HR1.out, HM1.out, Met.nil _ _, HB1.out⟩
  case round =>
    obtain ⟨D, cnt, h, hr, hm, hmet, hbw'⟩ := hrel
    obtain ⟨wo, rfl⟩ : ∃ wo : World, wo = wr := ⟨_, rfl⟩
    have HR := Lib.hid hr
    have HM := Lib.hid hm
    have HMet := Lib.hid hmet
    have HB := Lib.hid hbw'
    have hsz := hbw'.size
    have hlm := hm.lt
    clear hr hm hmet hbw'
    go_wp2_with (first
      | (at_next; refine wpList_rnext _ rfl (.tmp 62) rfl b (w.heap.size + 1) n (intv G) D cnt rfl HR.out (fun hl => ?_) (fun s v w2 cnt2 hx hen => ?_))
      | (at_mapUpdate; refine wpList_rput _ rfl (.tmp 68) (.tmp 69) (.tmp 70) 85 rfl 9 49 Tryd.underlying85 Tryd.underlying9 w.heap.size D.length h rfl (HM.out.grown hx.out.2.2.2.2.1 (by intro e; injection e; omega)) s v rfl rfl ?_; intro w3 hm3 hg3))
    · have HME : Hid (∀ s, h s = intv G s) := HMet.out.all fun s hs => by
        cases hg : intv G s with
        | none => rfl
        | some x => exact absurd (hl.out s (by rw [hg]; rfl)) hs
      have hDn := HR.out.len
      clear hl
      go_wp2
      go_ret
      exact ⟨_, rfl, Nat.le_refl _, (HM.out.more hDn).eq_ HME.out, HB.out⟩
    · have HX := Lib.hid hx.out
      have hs2 := HX.out.2.2.2.2.2
      have HR3 := Lib.hid (HX.out.2.2.1.kept hg3 (by intro e; injection e; omega) (by intro e; injection e; omega))
      have HM3 := Lib.hid hm3
      have HB3 := Lib.hid ((HB.out.grown HX.out.2.2.2.2.1 hsz (fun a ha => by injection ha; omega)).grown hg3 (by omega) (fun a ha => by injection ha; omega))
      have HMet3 := Lib.hid (HMet.out.step HX.out.1)
      have hle := HR.out.left_eq
      have hle3 := HR3.out.left_eq
      have hlt3 := HX.out.2.2.2.1
      have HLE : Hid (w3.rangeLeft b (w.heap.size + 1) < wo.rangeLeft b (w.heap.size + 1)) := Lib.hid (by rw [hle, hle3]; exact hlt3)
      clear hx hm3 hg3 hen hle hle3 hlt3 hs2
      go_frame
      go_wp2
      go_roundw
      case rel => exact ⟨D ++ [s], _, _, HR3.out, (by rw [List.length_append]; exact HM3.out), HMet3.out, HB3.out⟩
      case measure => exact HLE.out
theorem zero_hide (w : World) : (zeroValue 49).run Tryd.prog w = .ok (.int .i64 0) w := by kernel_rfl
set_option maxRecDepth 100000 in
set_option maxHeartbeats 2000000 in
theorem visExt_any (p n m : Nat) (l r : Value) (z : Int) (A G : ByteArray → Option Int) (w : World) (hb : Blk w p 92 #[l, r, .int .i64 z]) (hr : SimR w r n G) (hlp : ∃ T q, l = .iface T (.pointer (some ⟨q, 0, none⟩)))
    (hl : ∀ w', Below w.heap.size w w' → Calls Tryd.prog 35 #[l] w' (VisTo w' m A)) :
    Calls Tryd.prog 35 #[.iface 90 (.pointer (some ⟨p, 0, none⟩))] w (VisTo w (m + n) (comb A G)) := by
  have hmk := make_hides
  have t1 : ∀ w, (Instr.typeAssert (.iface 90 (.pointer (some ⟨p, 0, none⟩))) 58 90 true).run Tryd.prog w = .ok (.tuple #[.pointer (some ⟨p, 0, none⟩), .bool true]) w := fun _ => by kernel_rfl
  have c0 : w.cell? ⟨p, 0, none⟩ = some l := hb.cell 0
  have c1 : w.cell? ⟨p, 1, none⟩ = some r := hb.cell 1
  have hp := hb.lt
  have HR := Lib.hid hr
  have HL := Lib.hid hl
  obtain ⟨T, q, rfl⟩ := hlp
  obtain ⟨pr, br, rfl, -, -⟩ := hr
  clear hb hl
  go_enter Tryd.func35, Tryd.ntmps35
  go_wp2_with fail
  go_at_call 35
  refine (HL.out _ ((Below.refl _ _).alloc (Nat.le_refl _) _)).mono ?_
  rintro e w1 ⟨b1, rfl, hb1l, hm1, hB1⟩
  have hB01 := ((Below.refl w.heap.size w).alloc (Nat.le_refl _) (.map #[] 0)).trans (hB1.mono (by simp))
  have d1 := cell_below c1 hB01
  have HM1 := Lib.hid hm1
  have HB1 := Lib.hid hB01
  have hs1 := hB01.size
  have hb1w : w.heap.size ≤ b1 := by simp at hb1l; omega
  clear hm1 hB1 hB01 c0 c1 hb1l
  go_wp2_with fail
  go_at_call 35
  refine (visSim_any _ n G w1 (HR.out.below HB1.out)).mono ?_
  rintro e w2 ⟨b2, rfl, hb2l, hm2, hB2⟩
  have HM2 := Lib.hid hm2
  have HM12 := Lib.hid (HM1.out.below hB2)
  have HB2 := Lib.hid (HB1.out.trans (hB2.mono hs1))
  have hs2 := HB2.out.size
  have hlt1 := HM1.out.lt
  clear hm2 hB2
  go_wp2_with (at_range; refine wpList_rrange _ rfl (.tmp 31) 85 rfl _ _ Tryd.underlying85 b2 n (intv G) rfl HM2.out ?_; intro w3 cnt3 hr3 hb3 hs3)
  have HR3 := Lib.hid hr3
  have HM3 := Lib.hid (HM12.out.below hb3)
  have HB3 := Lib.hid (HB2.out.trans (hb3.mono hs2))
  have hlt2 := HM2.out.lt
  have hw23 : w3.heap.size = w2.heap.size + 1 := hs3
  clear hr3 hb3 hs3
  go_frame
  go_loopw [6] (fun _ wr => ∃ (D : List ByteArray) (cnt : Nat) (h : ByteArray → Option Value), Rit wr w2.heap.size b2 n (intv G) D cnt ∧ RMap wr b1 (m + D.length) h ∧ Met D (intv (comb A G)) (intv A) h ∧ Below w.heap.size w wr) (fun _ wr => wr.rangeLeft b2 w2.heap.size)
  case atStart => exact ⟨[], _, _, HR3.out, HM3.out, Met.nil _ _, HB3.out⟩
  case round =>
    obtain ⟨D, cnt, h, hr, hm, hmet, hbw'⟩ := hrel
    obtain ⟨wo, rfl⟩ : ∃ wo : World, wo = wr := ⟨_, rfl⟩
    have HR' := Lib.hid hr
    have HM' := Lib.hid hm
    have HMet := Lib.hid hmet
    have HB := Lib.hid hbw'
    have hsz := hbw'.size
    have hlm := hm.lt
    clear hr hm hmet hbw'
    go_wp2_with (first
      | (at_next; refine wpList_rnext _ rfl (.tmp 32) rfl b2 w2.heap.size n (intv G) D cnt rfl HR'.out (fun hl => ?_) (fun s v w4 cnt4 hx hen => ?_); rotate_left; obtain ⟨x, hgx, rfl⟩ := intv_some hx.out.1; have HGX := Lib.hid hgx; clear hgx; (rcases Classical.em (x = 1) with rfl | hx1); (cases hhs : h s); rotate_left 2; have hxb : (x == 1) = false := (by simpa using hx1); have HX1 := Lib.hid hx1; clear hx1; rotate_left)
      | (at_lookup; refine wpList_getok _ rfl (.tmp 41) (.tmp 42) 85 rfl 9 49 Tryd.underlying85 Tryd.underlying9 _ zero_hide b1 h rfl ((HM'.out.grown hx.out.2.2.2.2.1 (by intro e; injection e; omega)).fmap) s rfl ?_)
      | (at_mapUpdate; refine wpList_rput _ rfl (.tmp 48) (.tmp 49) (.tmp 50) 85 rfl 9 49 Tryd.underlying85 Tryd.underlying9 b1 (m + D.length) h rfl (HM'.out.grown hx.out.2.2.2.2.1 (by intro e; injection e; omega)) s _ rfl rfl ?_; intro w5 hm5 hg5)
      | (at_mapUpdate; refine wpList_rput _ rfl (.tmp 51) (.tmp 52) (.tmp 53) 85 rfl 9 49 Tryd.underlying85 Tryd.underlying9 b1 (m + D.length) h rfl (HM'.out.grown hx.out.2.2.2.2.1 (by intro e; injection e; omega)) s _ rfl rfl ?_; intro w5 hm5 hg5))
    · have HME : Hid (∀ s, h s = intv (comb A G) s) := HMet.out.all fun s hs => by
        cases hg : G s with
        | none => unfold intv comb; rw [hg]
        | some x => exact absurd (hl.out s (by unfold intv; rw [hg]; rfl)) hs
      have hDn := HR'.out.len
      clear hl
      go_ret
      exact ⟨_, rfl, hb1w, (HM'.out.more (by omega)).eq_ HME.out, HB.out⟩
    · have hA : A s = none := by
        have := (HMet.out s).2 hx.out.2.1
        rw [hhs] at this
        unfold intv at this
        cases ha : A s with
        | none => rfl
        | some y => rw [ha] at this; cases this
      have HA1 : Hid (intv (comb A G) s = some (.int .i64 1)) := Lib.hid (by unfold intv comb; rw [HGX.out]; simp [hA])
      clear hA hhs
      have HX := Lib.hid hx.out
      have hs2' := HX.out.2.2.2.2.2
      have HR5 := Lib.hid (HX.out.2.2.1.kept hg5 (by intro e; injection e; omega) (by intro e; injection e; omega))
      have HM5 := Lib.hid hm5
      have HB5 := Lib.hid ((HB.out.grown HX.out.2.2.2.2.1 hsz (fun a ha => by injection ha; omega)).grown hg5 (by omega) (fun a ha => by injection ha; omega))
      have HMet5 := Lib.hid (HMet.out.step HA1.out : Met (D ++ [s]) (intv (comb A G)) (intv A) _)
      have hle := HR'.out.left_eq
      have hle5 := HR5.out.left_eq
      have hlt5 := HX.out.2.2.2.1
      have HLE : Hid (w5.rangeLeft b2 w2.heap.size < wo.rangeLeft b2 w2.heap.size) := Lib.hid (by rw [hle, hle5]; exact hlt5)
      clear hx hm5 hg5 hen hle hle5 hlt5 hs2'
      go_frame
      go_wp2
      go_roundw
      case rel => exact ⟨D ++ [s], _, _, HR5.out, (by rw [List.length_append]; exact HM5.out), HMet5.out, HB5.out⟩
      case measure => exact HLE.out
    · have hA : intv (comb A G) s = intv A s := by
        have := (HMet.out s).2 hx.out.2.1
        rw [hhs] at this
        unfold intv at this ⊢
        unfold comb
        rw [HGX.out]
        cases ha : A s with
        | none => rw [ha] at this; cases this
        | some y => simp
      have HA1 := Lib.hid hA
      clear hA hhs
      have HX := Lib.hid hx.out
      have hs2' := HX.out.2.2.2.2.2
      have HR5 := Lib.hid HX.out.2.2.1
      have HM5 := Lib.hid (HM'.out.grown HX.out.2.2.2.2.1 (by intro e; injection e; omega))
      have HB5 := Lib.hid (HB.out.grown HX.out.2.2.2.2.1 hsz (fun a ha => by injection ha; omega))
      have HMet5 := Lib.hid (HMet.out.same HX.out.2.1 HA1.out)
      have hle := HR'.out.left_eq
      have hle5 := HR5.out.left_eq
      have hlt5 := HX.out.2.2.2.1
      have HLE : Hid (w4.rangeLeft b2 w2.heap.size < wo.rangeLeft b2 w2.heap.size) := Lib.hid (by rw [hle, hle5]; exact hlt5)
      clear hx hen hle hle5 hlt5 hs2'
      refine ⟨⟨D ++ [s], _, _, HR5.out, HM5.out.more (by rw [List.length_append]; omega), HMet5.out, HB5.out⟩, HLE.out⟩
    · have HA1 : Hid (intv (comb A G) s = some (.int .i64 x)) := Lib.hid (by unfold intv comb; rw [HGX.out]; simp [HX1.out])
      have HX := Lib.hid hx.out
      have hs2' := HX.out.2.2.2.2.2
      have HR5 := Lib.hid (HX.out.2.2.1.kept hg5 (by intro e; injection e; omega) (by intro e; injection e; omega))
      have HM5 := Lib.hid hm5
      have HB5 := Lib.hid ((HB.out.grown HX.out.2.2.2.2.1 hsz (fun a ha => by injection ha; omega)).grown hg5 (by omega) (fun a ha => by injection ha; omega))
      have HMet5 := Lib.hid (HMet.out.step HA1.out : Met (D ++ [s]) (intv (comb A G)) (intv A) _)
      have hle := HR'.out.left_eq
      have hle5 := HR5.out.left_eq
      have hlt5 := HX.out.2.2.2.1
      have HLE : Hid (w5.rangeLeft b2 w2.heap.size < wo.rangeLeft b2 w2.heap.size) := Lib.hid (by rw [hle, hle5]; exact hlt5)
      clear hx hm5 hg5 hen hle hle5 hlt5 hs2'
      go_frame
      go_wp2
      go_roundw
      case rel => exact ⟨D ++ [s], _, _, HR5.out, (by rw [List.length_append]; exact HM5.out), HMet5.out, HB5.out⟩
      case measure => exact HLE.out
theorem visit_any : ∀ (o : OT) (v : Value) (w : World), Obt w o v → Calls Tryd.prog 35 #[v] w (VisTo w (cnt o) (vis o))
  | .simp n G, v, w, h => visSim_any v n G w h
  | .ext o n G, v, w, h => by
    obtain ⟨p, l, r, rfl, hb, ho, hr⟩ := h
    exact visExt_any p n (cnt o) l r _ (vis o) G w hb hr ho.ptr fun w' hw => visit_any o l w' (ho.below hw)
  | .res o n G, v, w, h => by
    obtain ⟨p, b, l, rfl, hb, _, hm⟩ := h
    exact visRes_any p b n l G w hb hm
end Go.Proofs.YthmijakellfbiaaDoor
