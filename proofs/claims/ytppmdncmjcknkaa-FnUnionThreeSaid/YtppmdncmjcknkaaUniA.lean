/-
  Names bound to thunks, put together. Conditions: none.
-/
import Derived.Test.YtppmdncmjcknkaaBndD
import Derived.Test.YtppmdncmjcknkaaUniP
namespace Go.Proofs.Ytppmdncmjcknkaa
open Go.RowKit
set_option linter.unusedVariables false
set_option linter.unusedSimpArgs false

/-- A map of thunks that hold whole numbers. -/
def TMap (w : World) (b n : Nat) (G : ByteArray → Option Int) : Prop := ∃ f, RMap w b n f ∧ ∀ s, (G s = none → f s = none) ∧ ∀ x, G s = some x → ∃ v, f s = some v ∧ Thk w v x
theorem TMap.below {w w' : World} {b n : Nat} {G : ByteArray → Option Int} (h : TMap w b n G) (hb : Below w.heap.size w w') : TMap w' b n G := by
  obtain ⟨f, h1, h2⟩ := h
  refine ⟨f, h1.below hb, fun s => ⟨(h2 s).1, fun x hx => ?_⟩⟩
  obtain ⟨v, h3, h4⟩ := (h2 s).2 x hx
  exact ⟨v, h3, h4.keep (NumKeep.below hb)⟩
theorem Blk.new_at2 {w : World} {n : Nat} {t : TypeId} {cs : Array Value} (h : w.heap.size = n) : Blk (w.alloc (.cells cs t)) n t cs := by subst h; exact Blk.new w t cs
theorem make_frame (w : World) : (Instr.makeMap 68 none).run Try.prog w = .ok (.map (some w.heap.size)) (w.alloc (.map #[] 0)) := by
  simp [Instr.makeMap, run_underlying Try.underlying68]
theorem make_ints (w : World) : (Instr.makeMap 37 none).run Try.prog w = .ok (.map (some w.heap.size)) (w.alloc (.map #[] 0)) := by
  simp [Instr.makeMap, run_underlying Try.underlying37]
theorem RMap.keepNum {w w' : World} {b n : Nat} {f : ByteArray → Option Value} (h : RMap w b n f) (hg : w.grownBy w' (some b)) : NumKeep w w' := by
  obtain ⟨es, cl, l, h1, _⟩ := h
  exact NumKeep.mapped h1 hg
theorem prs_step {ns : List ByteArray} {k : Nat} {s : ByteArray} (m : Int) (h : ns[k]? = some s) : prs (ns.take (k + 1)) m = prs (ns.take k) m ++ [(s, m + k)] := by
  have hk := (List.getElem?_eq_some_iff.1 h).1
  rw [List.take_succ_eq_append_getElem hk, (List.getElem?_eq_some_iff.1 h).2, prs_append]
  have : (ns.take k).length = k := by rw [List.length_take]; omega
  rw [this]
  rfl
def FrameTo (w : World) (n : Nat) (G : ByteArray → Option Int) (e : Ending) (w' : World) : Prop := ∃ b, e = .returned (.map (some b)) ∧ TMap w' b n G ∧ Below w.heap.size w w'
set_option maxRecDepth 100000 in
set_option maxHeartbeats 1000000 in
theorem frame_any (A : Option Addr) (c : Nat) (ns : List ByteArray) (m : Nat) (w : World) (h : Reads w w.heap.size 1 A ns.length (strs ns)) (hl : ns.length ≤ 1000) (hm : m ≤ 1000) : Calls Try.prog 24 #[.slice A ns.length c, .int .i64 m] w (FrameTo w ns.length (look (prs ns m))) := by
  have HR := Lib.hid h
  have hmf := make_frame
  clear h
  go_enter Try.func24, Try.ntmps24
  go_wp2
  go_loopw [11] (fun i wr => ∃ k : Nat, k ≤ ns.length ∧ i = .int .i64 k ∧ TMap wr w.heap.size k (look (prs (ns.take k) m)) ∧ Below w.heap.size w wr) (fun i _ => ns.length - (intOf i).toNat)
  case atStart => exact ⟨0, by omega, rfl, ⟨_, RMap.new_at rfl 0, fun s => ⟨fun _ => rfl, fun x hx => by cases hx⟩⟩, (Below.refl _ _).alloc (Nat.le_refl _) _⟩
  case round =>
    obtain ⟨k, hk, rfl, ht, hbw⟩ := hrel
    have HT := Lib.hid ht
    have HB := Lib.hid hbw
    have hsz := hbw.size
    by_cases hlt : k < ns.length
    · obtain ⟨ad, s, rfl, hb, hs, hc⟩ := HR.out.line hlt
      have e1 := cell_below hc hbw
      have HS := Lib.hid (prs_step (m : Int) hs)
      obtain ⟨f, hf, hfg⟩ := ht
      have hlw := hf.lt
      have HF := Lib.hid hf
      have HFG := Lib.hid hfg
      clear hf hfg hs hc hb hbw
      go_wp2_with fail
      go_at_call 30
      refine (intval_any _ _).mono ?_
      rintro e w' ⟨rfl, rfl⟩
      go_wp2_with fail
      go_at_call 29
      refine (ready_any _ _ _).mono ?_
      rintro e w' ⟨rfl, rfl⟩
      go_wp2_with (at_mapUpdate; refine wpList_rput _ rfl (.tmp 16) (.tmp 17) (.tmp 23) 68 rfl 71 53 Try.underlying68 Try.underlying71 w.heap.size k f rfl ((HF.out.alloc _).alloc _) s _ rfl rfl ?_; intro w2 hf2 hg2)
      have hB2 : Below wr.heap.size wr ((wr.alloc (.cells #[.float .f64 (floatOfInt .f64 ((m : Int) + (k : Int)))] 58)).alloc (.cells #[.pointer none, .nilIface, .iface 59 (.pointer (some ⟨wr.heap.size, 0, none⟩)), .nilIface] 66)) := ((Below.refl _ _).alloc (Nat.le_refl _) _).alloc (by simp) _
      have hK := (((HF.out.alloc (.cells #[.float .f64 (floatOfInt .f64 ((m : Int) + (k : Int)))] 58)).alloc (.cells #[.pointer none, .nilIface, .iface 59 (.pointer (some ⟨wr.heap.size, 0, none⟩)), .nilIface] 66))).keepNum hg2
      have hT2 : Hid (TMap w2 w.heap.size (k + 1) (look (prs (ns.take (k + 1)) m))) := by
        refine ⟨_, hf2, fun x => ?_⟩
        rw [HS.out]
        by_cases hx : s = x
        · subst hx
          rw [look_hit, if_pos rfl]
          refine ⟨(fun h => by cases h), fun y hy => ?_⟩
          injection hy with hy
          subst hy
          exact ⟨_, rfl, _, _, rfl, hK _ _ _ (.inl rfl) (Blk.new_at2 (by simp)), hK _ _ _ (.inr rfl) ((Blk.new_at2 rfl).alloc _)⟩
        · rw [look_miss hx, if_neg hx]
          refine ⟨(HFG.out x).1, fun y hy => ?_⟩
          obtain ⟨v, h1, h2⟩ := (HFG.out x).2 y hy
          exact ⟨v, h1, (h2.keep (NumKeep.below hB2)).keep hK⟩
      have hB3 := Lib.hid (HB.out.trans (((hB2.mono hsz).grown hg2 (by simp; omega) (fun a ha => by injection ha; omega))))
      clear hf2 hg2 hB2 hK
      go_wp2
      go_roundw
      case rel => exact ⟨k + 1, by omega, by go_num, hT2.out, hB3.out⟩
      case measure => simp [intOf]; omega
    · obtain rfl : k = ns.length := by omega
      rw [List.take_length] at HT
      clear ht hbw
      go_wp2
      go_ret
      exact ⟨_, rfl, HT.out, HB.out⟩

/-! ### addBindings -/
/-- Those entries of f that have been met, the others from g. -/
def Met (D : List ByteArray) (f g h : ByteArray → Option Value) : Prop := ∀ s, (s ∈ D → h s = f s) ∧ (s ∉ D → h s = g s)
theorem Met.nil (f g : ByteArray → Option Value) : Met [] f g g := fun s => ⟨fun h => by simp at h, fun _ => rfl⟩
theorem Met.step {D : List ByteArray} {f g h : ByteArray → Option Value} {s : ByteArray} {v : Value} (hm : Met D f g h) (hv : f s = some v) : Met (D ++ [s]) f g (fun x => if s = x then some v else h x) := fun x => by
  by_cases e : s = x
  · subst e
    simp only [if_pos]
    exact ⟨fun _ => hv.symm, fun h => absurd (by simp) h⟩
  · simp only [if_neg e]
    refine ⟨fun hx => (hm x).1 ?_, fun hx => (hm x).2 fun hd => hx (by simp [hd])⟩
    rcases List.mem_append.1 hx with hx | hx
    · exact hx
    · simp at hx
      exact absurd hx.symm e
theorem Met.full {D : List ByteArray} {f g h : ByteArray → Option Value} (hm : Met D f g h) (hall : ∀ s, (f s).isSome = true → s ∈ D) (hin : ∀ s ∈ D, (f s).isSome = true) : ∀ s, h s = (f s).or (g s) := fun s => by
  cases hf : f s with
  | some v => rw [(hm s).1 (hall s (by rw [hf]; rfl)), hf]; rfl
  | none =>
    rw [(hm s).2 fun hd => by have := hin s hd; rw [hf] at this; cases this]
    rfl
def AddTo (w : World) (n : Nat) (f : ByteArray → Option Value) (e : Ending) (w' : World) : Prop := ∃ b, e = .returned (.map (some b)) ∧ w.heap.size ≤ b ∧ RMap w' b n f ∧ Below w.heap.size w w'
set_option maxRecDepth 100000 in
set_option maxHeartbeats 2000000 in
theorem add_any (p q n m : Nat) (f g : ByteArray → Option Value) (w : World) (hf : RMap w p n f) (hg : RMap w q m g) : Calls Try.prog 23 #[.map (some p), .map (some q)] w (AddTo w (n + m) (fun s => (g s).or (f s))) := by
  have HF := Lib.hid hf
  have HG := Lib.hid hg
  have hmk : ∀ (j : Nat) (w : World), (Instr.makeMap 68 (some (.int .i64 (j : Int)))).run Try.prog w = .ok (.map (some w.heap.size)) (w.alloc (.map #[] 0)) := fun j w => run_makeMap_hint _ _ _ _ _ Try.underlying68 w
  clear hf hg
  go_enter Try.func23, Try.ntmps23
  go_wp2_with (first
    | (at_len; refine wpList_rlen _ rfl (.tmp 10) 68 rfl _ _ Try.underlying68 p n f rfl HF.out ?_; intro j hj)
    | (at_range; refine wpList_rrange _ rfl (.tmp 13) 68 rfl _ _ Try.underlying68 p n f rfl (HF.out.alloc _) ?_; intro w1 cnt1 hr1 hb1 hs1))
  have e1 : (w.alloc (Obj.map #[] 0)).heap.size = w.heap.size + 1 := by simp
  rw [e1] at hr1 hb1 hs1
  have HR1 := Lib.hid hr1
  have HB1 := Lib.hid (((Below.refl w.heap.size w).alloc (Nat.le_refl _) (.map #[] 0)).trans (hb1.mono (by simp)))
  have HM1 := Lib.hid ((RMap.new w 0).below (by rw [e1]; exact hb1))
  have hpw := HF.out.lt
  have hqw := HG.out.lt
  clear hr1 hb1
  go_frame
  simp only [e1]
  clear e1
  go_loopw [6] (fun _ wr => ∃ (D : List ByteArray) (cnt : Nat) (h : ByteArray → Option Value), Rit wr (w.heap.size + 1) p n f D cnt ∧ RMap wr w.heap.size D.length h ∧ Met D f (fun _ => none) h ∧ Below w.heap.size w wr) (fun _ wr => wr.rangeLeft p (w.heap.size + 1))
  case atStart => exact ⟨[], _, _, HR1.out, HM1.out, Met.nil _ _, HB1.out⟩
  case round =>
    obtain ⟨D, cnt, h, hr, hm, hmet, hbw⟩ := hrel
    obtain ⟨wo, rfl⟩ : ∃ wo : World, wo = wr := ⟨_, rfl⟩
    have HR := Lib.hid hr
    have HM := Lib.hid hm
    have HMet := Lib.hid hmet
    have HB := Lib.hid hbw
    have hsz := hbw.size
    clear hr hm hmet hbw
    go_wp2_with (first
      | (at_next; refine wpList_rnext _ rfl (.tmp 14) rfl p (w.heap.size + 1) n f D cnt rfl HR.out (fun hl => ?_) (fun s v w2 cnt2 hx hen => ?_))
      | (at_mapUpdate; refine wpList_rput _ rfl (.tmp 20) (.tmp 21) (.tmp 22) 68 rfl 71 53 Try.underlying68 Try.underlying71 w.heap.size D.length h rfl (HM.out.grown hx.out.2.2.2.2.1 (by intro e; injection e; omega)) s v rfl rfl ?_; intro w3 hm3 hg3)
      | (at_range; refine wpList_rrange _ rfl (.tmp 23) 68 rfl _ _ Try.underlying68 q m g rfl (HG.out.below HB.out) ?_; intro w4 cnt4 hr4 hb4 hs4))
    rotate_left
    · have HX := Lib.hid hx.out
      have hs2 := HX.out.2.2.2.2.2
      have HR3 := Lib.hid (HX.out.2.2.1.kept hg3 (by intro e; injection e; omega) (by intro e; injection e; omega))
      have HM3 := Lib.hid hm3
      have HB3 := Lib.hid ((HB.out.grown HX.out.2.2.2.2.1 hsz (fun a ha => by injection ha; omega)).grown hg3 (by omega) (fun a ha => by injection ha; omega))
      have HMet3 := Lib.hid (HMet.out.step HX.out.1)
      have hle := HR.out.left_eq
      have hle3 := HR3.out.left_eq
      have hlt3 := HX.out.2.2.2.1
      have HLE : Hid (w3.rangeLeft p (w.heap.size + 1) < wo.rangeLeft p (w.heap.size + 1)) := Lib.hid (by rw [hle, hle3]; exact hlt3)
      clear hx hm3 hg3 hen hle hle3 hlt3 hs2
      go_frame
      go_wp2
      go_roundw
      case rel => exact ⟨D ++ [s], _, _, HR3.out, (by rw [List.length_append]; exact HM3.out), HMet3.out, HB3.out⟩
      case measure => exact HLE.out
    · have HME : Hid (∀ s, h s = f s) := fun s => by
        have := HMet.out.full hl.out HR.out.has s
        rw [this]
        cases f s <;> rfl
      have hDn := HR.out.len
      have HM4 := Lib.hid (((HM.out.more hDn).eq_ HME.out).below hb4)
      have HR4 := Lib.hid hr4
      have HB4 := Lib.hid (HB.out.trans (hb4.mono hsz))
      have hlw := HM.out.lt
      have hn4 : w.heap.size < wo.heap.size := hlw
      clear hl hr4 hb4 hs4
      go_frame
      go_loopw [8] (fun _ wr => ∃ (D : List ByteArray) (cnt : Nat) (h : ByteArray → Option Value), Rit wr wo.heap.size q m g D cnt ∧ RMap wr w.heap.size (n + D.length) h ∧ Met D g f h ∧ Below w.heap.size w wr) (fun _ wr => wr.rangeLeft q wo.heap.size)
      case atStart => exact ⟨[], _, _, HR4.out, HM4.out, Met.nil _ _, HB4.out⟩
      case round =>
        obtain ⟨D', cnt', h', hr, hm, hmet, hbw⟩ := hrel
        obtain ⟨wp, rfl⟩ : ∃ wp : World, wp = wr := ⟨_, rfl⟩
        have HR' := Lib.hid hr
        have HM' := Lib.hid hm
        have HMet' := Lib.hid hmet
        have HB' := Lib.hid hbw
        have hsz' := hbw.size
        have hwp := hr.lt
        clear hr hm hmet hbw
        go_wp2_with (first
          | (at_next; refine wpList_rnext _ rfl (.tmp 24) rfl q wo.heap.size m g D' cnt' rfl HR'.out (fun hl => ?_) (fun s v w2 cnt2 hx hen => ?_))
          | (at_mapUpdate; refine wpList_rput _ rfl (.tmp 30) (.tmp 31) (.tmp 32) 68 rfl 71 53 Try.underlying68 Try.underlying71 w.heap.size (n + D'.length) h' rfl (HM'.out.grown hx.out.2.2.2.2.1 (by intro e; injection e; omega)) s v rfl rfl ?_; intro w3 hm3 hg3))
        · have HME' : Hid (∀ s, h' s = (g s).or (f s)) := fun s => HMet'.out.full hl.out HR'.out.has s
          have hDm := HR'.out.len
          clear hl
          go_wp2
          go_ret
          exact ⟨_, rfl, Nat.le_refl _, (HM'.out.more (by omega)).eq_ HME'.out, HB'.out⟩
        · have HX := Lib.hid hx.out
          have hs2 := HX.out.2.2.2.2.2
          have HR3 := Lib.hid (HX.out.2.2.1.kept hg3 (by intro e; injection e; omega) (by intro e; injection e; omega))
          have HM3 := Lib.hid hm3
          have HB3 := Lib.hid ((HB'.out.grown HX.out.2.2.2.2.1 hsz' (fun a ha => by injection ha; omega)).grown hg3 (by omega) (fun a ha => by injection ha; omega))
          have HMet3 := Lib.hid (HMet'.out.step HX.out.1)
          have hle := HR'.out.left_eq
          have hle3 := HR3.out.left_eq
          have hlt3 := HX.out.2.2.2.1
          have HLE : Hid (w3.rangeLeft q wo.heap.size < wp.rangeLeft q wo.heap.size) := Lib.hid (by rw [hle, hle3]; exact hlt3)
          clear hx hm3 hg3 hen hle hle3 hlt3 hs2
          go_frame
          go_wp2
          go_roundw
          case rel => exact ⟨D' ++ [s], _, _, HR3.out, (by rw [List.length_append]; exact HM3.out), HMet3.out, HB3.out⟩
          case measure => exact HLE.out
end Go.Proofs.Ytppmdncmjcknkaa
