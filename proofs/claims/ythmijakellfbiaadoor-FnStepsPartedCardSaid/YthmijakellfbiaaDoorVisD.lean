/-
  A field taken out of an object. Conditions: none.
-/
import Derived.Test.YthmijakellfbiaaDoorVisC
import Derived.Deep.RegionHeld3
import Derived.Deep.DrawnRows
namespace Go.Proofs.YthmijakellfbiaaDoor
open Go.RowKit Go.MapKept
open Go.ChangeMaps (setBlock)
set_option linter.unusedVariables false
set_option linter.unusedSimpArgs false
attribute [local go_sem ↓] Go.wp_at_zero Go.wp_at_succ

theorem mget_erase : ∀ (l : List (ByteArray × Value)) (m : Nat) (s : ByteArray) (u : Value), l[m]? = some (s, u) → (l.map (·.1)).Nodup → ∀ t, mget (l.eraseIdx m) t = @ite _ (s = t) (Classical.propDecidable _) none (mget l t)
  | [], m, s, u, h, _, t => by simp at h
  | (k, v) :: l, 0, s, u, h, hn, t => by
    simp at h
    obtain ⟨rfl, rfl⟩ := h
    simp only [List.map_cons, List.nodup_cons] at hn
    rw [List.eraseIdx_cons_zero, mget_cons]
    by_cases e : k = t
    · subst e
      rw [if_pos rfl]
      cases hg : mget l k with
      | none => rfl
      | some x => exact absurd (List.mem_map.2 ⟨_, mget_in hg, rfl⟩) hn.1
    · rw [if_neg e, if_neg (fun h => e h.symm)]
  | (k, v) :: l, m + 1, s, u, h, hn, t => by
    simp only [List.map_cons, List.nodup_cons] at hn
    have h' : l[m]? = some (s, u) := by simpa using h
    have hks : k ≠ s := fun e => hn.1 (by rw [e]; exact List.mem_map.2 ⟨_, List.mem_of_getElem? h', rfl⟩)
    rw [List.eraseIdx_cons_succ, mget_cons, mget_cons, mget_erase l m s u h' hn.2 t]
    by_cases e : t = k
    · rw [if_pos e, if_pos e, if_neg (by rw [e]; exact Ne.symm hks)]
    · rw [if_neg e, if_neg e]
theorem er_map {α β : Type} (g : α → β) : ∀ (l : List α) (m : Nat), (l.eraseIdx m).map g = (l.map g).eraseIdx m
  | [], m => by simp
  | x :: l, 0 => by simp
  | x :: l, m + 1 => by simp [er_map g l m]
theorem sub_erase {α : Type} (l : List α) (m : Nat) : (l.eraseIdx m).Sublist l := List.eraseIdx_sublist _ _
section
variable {P : Program} {w : World} {b n : Nat} {f : ByteArray → Option Value}
theorem RMap.del {t k e : TypeId} (h : RMap w b n f) (ht : P.underlying t = some (.map k e)) (hk : P.underlying k = some .string) (s : ByteArray) (ty : TypeId) :
    ∃ w', (Builtin.delete_ #[t, k] ty #[.map (some b), .string s]).run P w = .ok (.tuple #[]) w' ∧ RMap w' b n (fun x => @ite _ (s = x) (Classical.propDecidable _) none (f x)) ∧ w.grownBy w' (some b) := by
  obtain ⟨es, cl, l, h1, h2, h3, h4, h5, h6, h7⟩ := h
  have hf := findNow_str s es.toList l 0 h2
  have hr := run_findKey (w := w) hk hf
  have hc : ∀ c, (Instr.checkKey c 10000 k (.string s)).run P w = .ok () w := fun c => run_checkKey hk (by simp [IsKey]) c 9999
  have hgo := Go.MapKept.run_getObj_map (P := P) h1
  cases hm : mfind l s 0 with
  | none =>
    rw [hm] at hr
    have hg0 : mget l s = none := by unfold mget; rw [hm]; rfl
    refine ⟨setBlock w b (.map es cl), by simp [Builtin.delete_, run_underlying ht, hgo, hc, hr, MapKept.run_setObj_map _ h1, Result.andThen, setBlock], ⟨es, cl, l, (heap_set h1).1, h2, fun x => ?_, h4, h5, h6, h7⟩, ⟨rfl, rfl, rfl, by simp [setBlock], fun i _ hi => (heap_set h1).2 i (fun e => hi (by rw [e]))⟩⟩
    show mget l x = @ite _ (s = x) (Classical.propDecidable _) none (f x)
    by_cases e : s = x
    · subst e
      rw [if_pos rfl, hg0]
    · rw [if_neg e, h3 x]
  | some p =>
    obtain ⟨j, u⟩ := p
    obtain ⟨m, rfl, hn, hfirst⟩ := mfind_at hm
    rw [Nat.zero_add] at hm
    rw [hm] at hr
    have hml : m < l.length := (List.getElem?_eq_some_iff.1 hn).1
    have hel : es.toList.length = l.length := by have := congrArg List.length h2; simpa using this
    have hms : m < es.size := by rw [← Array.length_toList]; omega
    have hsub : (es.eraseIdxIfInBounds m).toList = es.toList.eraseIdx m := by
      unfold Array.eraseIdxIfInBounds
      rw [dif_pos hms]
      simp
    refine ⟨setBlock w b (.map (es.eraseIdxIfInBounds m) cl), by simp [Builtin.delete_, run_underlying ht, hgo, hc, hr, MapKept.run_setObj_map _ h1, Result.andThen, setBlock], ⟨es.eraseIdxIfInBounds m, cl, l.eraseIdx m, (heap_set h1).1, ?_, fun x => ?_, ?_, ?_, ?_, ?_⟩, ⟨rfl, rfl, rfl, by simp [setBlock], fun i _ hi => (heap_set h1).2 i (fun e => hi (by rw [e]))⟩⟩
    · unfold Ents at h2 ⊢
      rw [hsub, er_map, er_map, h2]
    · rw [mget_erase l m s u hn h4 x, h3 x]
    · exact List.Nodup.sublist ((sub_erase l m).map _) h4
    · intro e he
      rw [hsub] at he
      exact h5 e ((sub_erase _ m).subset he)
    · rw [hsub]
      exact List.Nodup.sublist ((sub_erase _ m).map _) h6
    · have := MapFrom.size_erase es m
      omega
theorem step_rdel {ops : Array Oper} {o : Oper} {a : Act} {K : Act → World → Prop} {Q : Exit → Act → World → Prop} {E : Prop} (hgd : o.guard = none) (m x : Operand) (t k : TypeId)
    (hop : o.op = Op.call { callee := Callee.builtin Builtin.delete, args := #[m, x], argTypes := #[t, k] }) (e : TypeId) (ht : P.underlying t = some (.map k e)) (hk : P.underlying k = some .string)
    (hm : a.eval m = .map (some b)) (h : RMap w b n f) (s : ByteArray) (hx : a.eval x = .string s)
    (hK : ∀ w', RMap w' b n (fun x => @ite _ (s = x) (Classical.propDecidable _) none (f x)) → w.grownBy w' (some b) → K (a.put o.dst (.tuple #[])) w') :
    if Region.wanted o (yielded ops a.tmps) = true then Oper.wp P o a w K Q else E := by
  have hw : Region.wanted o (yielded ops a.tmps) = true := by simp [Region.wanted, hgd]
  rw [if_pos hw]
  obtain ⟨w', hrun, h1, h2⟩ := h.del (P := P) ht hk s o.type
  unfold Oper.wp
  simp [execOp, hop, resolve, invoke, builtin, hm, hx, hrun, Result.andThen]
  exact hK w' h1 h2
end
/-! ### a restricted object -/
theorem visObj_any (p : Nat) (v : Value) (o : OT) (w : World) (hp : Vob w p v) (ho : Obt w o v) : Calls Tryd.prog 31 #[.pointer (some ⟨p, 0, none⟩)] w (VisTo w (cnt o) (vis o)) := by
  have HO := Lib.hid ho
  obtain ⟨c, b⟩ := hp
  obtain ⟨T, q, rfl⟩ := ho.ptr
  have k2 : w.cell? ⟨p, 2, none⟩ = some (.iface T (.pointer (some ⟨q, 0, none⟩))) := b.cell 2
  clear ho b
  go_enter Tryd.func31, Tryd.ntmps31
  go_wp2_with fail
  go_at_call 35
  refine (visit_any o _ w HO.out).mono ?_
  rintro e w' ⟨b, rfl, h1, h2, h3⟩
  have H2 := Lib.hid h2
  have H3 := Lib.hid h3
  clear h2 h3
  go_wp2
  go_ret
  exact ⟨b, rfl, h1, H2.out, H3.out⟩
def ResTo (w : World) (o : OT) (e : Ending) (w' : World) : Prop := ∃ (r q b : Nat) (v : Value), e = .returned (.pointer (some ⟨r, 0, none⟩)) ∧ Vob w' r (.iface 88 (.pointer (some ⟨q, 0, none⟩))) ∧ Blk w' q 87 #[v, .map (some b)] ∧ Obt w o v ∧ w.heap.size ≤ b ∧ RMap w' b (cnt o) (intv (vis o)) ∧ Below w.heap.size w w'
theorem cell_al {w : World} {p : Addr} {v : Value} (o : Obj) (h : w.cell? p = some v) : (w.alloc o).cell? p = some v := cell_below h ((Below.refl _ _).alloc (Nat.le_refl _) _)
set_option maxRecDepth 100000 in
set_option maxHeartbeats 1000000 in
theorem mkRes_any (p : Nat) (v : Value) (o : OT) (w : World) (hp : Vob w p v) (ho : Obt w o v) : Calls Tryd.prog 29 #[.pointer (some ⟨p, 0, none⟩)] w (ResTo w o) := by
  have HO := Lib.hid ho
  have HP := Lib.hid hp
  obtain ⟨c, b⟩ := hp
  obtain ⟨T, q, rfl⟩ := ho.ptr
  have k2 : w.cell? ⟨p, 2, none⟩ = some (.iface T (.pointer (some ⟨q, 0, none⟩))) := b.cell 2
  have hmc := make_cache
  have hpl := b.lt
  clear ho b
  go_enter Tryd.func29, Tryd.ntmps29
  go_wp2_with fail
  have HV : Hid (∀ w1, Below w.heap.size w w1 → Calls Tryd.prog 31 #[.pointer (some ⟨p, 0, none⟩)] w1 fun e w' => VisTo w1 (cnt o) (vis o) e w' ∧ Below w.heap.size w w') := fun w1 h1 =>
    (visObj_any p _ o w1 (by obtain ⟨c, hb⟩ := HP.out; exact ⟨c, hb.later h1⟩) (HO.out.below h1)).mono fun e w' hh => ⟨hh, by obtain ⟨_, _, _, _, h4⟩ := hh; exact h1.trans (h4.mono h1.size)⟩
  go_region_held3 (fun w' => w'.cell? ⟨p, 2, none⟩ = some (.iface T (.pointer (some ⟨q, 0, none⟩))))
    (first | assumption | exact k2 | exact cell_al _ k2 | exact e2 | exact cell_al _ e2 | exact cell_al _ (cell_al _ e2) | exact cell_al _ (cell_al _ (cell_al _ e2)))
    ((go_at_call 31; refine (HV.out _ (by first | exact (Below.refl _ _).drew | exact ((Below.refl _ _).alloc (Nat.le_refl _) _).drew)).mono ?_; rintro e w2 ⟨⟨b2, rfl, hb2l, hm2, hB2⟩, hW2⟩; have e2 := cell_below k2 hW2))
  all_goals go_wp2
  all_goals
    have hb2w : w.heap.size ≤ b2 := by first | exact hb2l | (simp at hb2l; omega)
    have HM2 := Lib.hid hm2
    have HW2 := Lib.hid hW2
    have hs2 := hW2.size
    clear hm2 hW2 hB2 hb2l e2
    go_ret
    refine ⟨_, _, b2, .iface T (.pointer (some ⟨q, 0, none⟩)), rfl, ⟨_, Blk.new_at (by simp)⟩, ?_, ?_, hb2w, ?_, ?_⟩
    · first | exact (Blk.new w2 _ _).alloc _ | exact ((Blk.new w2 _ _).alloc _).alloc _ | exact (Blk.new_at (w := w2.alloc _) (by simp)).alloc _
    · exact HO.out
    · first | exact (HM2.out.alloc _).alloc _ | exact ((HM2.out.alloc _).alloc _).alloc _
    · first
        | exact (HW2.out.alloc hs2 _).alloc (Nat.le_trans hs2 (by simp)) _
        | exact ((HW2.out.alloc hs2 _).alloc (Nat.le_trans hs2 (by simp)) _).alloc (by simp; omega) _
end Go.Proofs.YthmijakellfbiaaDoor
