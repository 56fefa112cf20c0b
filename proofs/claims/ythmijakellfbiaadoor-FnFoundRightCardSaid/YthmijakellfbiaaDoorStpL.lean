/-
  A field found in objects that are added. Conditions: none.
-/
import Derived.Test.YthmijakellfbiaaDoorStpK
import Derived.Deep.RegionHeld3
import Derived.Deep.DrawnRows
namespace Go.Proofs.YthmijakellfbiaaDoor
open Go.RowKit
set_option linter.unusedVariables false
set_option linter.unusedSimpArgs false
attribute [local go_sem ↓] Go.wp_at_zero Go.wp_at_succ

theorem bcell {W w1 : World} (hb : Below W.heap.size W w1) : (∀ b o, b < W.heap.size → w1.cell? ⟨b, o, none⟩ = W.cell? ⟨b, o, none⟩) ∧ (∀ b o, b < W.heap.size → w1.frozen? ⟨b, o, none⟩ = W.frozen? ⟨b, o, none⟩) :=
  ⟨fun b o h => hb.cell (p := ⟨b, o, none⟩) h, fun b o h => hb.frozen (p := ⟨b, o, none⟩) h⟩
theorem cell_set {w : World} {p q : Addr} {v : Value} (h : w.cell? p = some v) (hne : p.block ≠ q.block) (u : Value) : (w.setCell q u).cell? p = some v := (World.cell?_setCell_other w q p u (fun e => hne (by rw [e]))).trans h
theorem new_cells (X : World) (n : Nat) (a b : Value) {t : TypeId} (hn : X.heap.size = n) : (X.alloc (.cells #[a, b] t)).drew.cell? ⟨n, 0, none⟩ = some a ∧ (X.alloc (.cells #[a, b] t)).drew.cell? ⟨n, 1, none⟩ = some b :=
  ⟨(Blk.new_at (cs := #[a, b]) (t := t) hn).cell 0, (Blk.new_at (cs := #[a, b]) (t := t) hn).cell 1⟩
/-- Where a name is found: the first part that has it. -/
def fplace (s : ByteArray) : List (ByteArray → Option Value) → Option Nat
  | [] => none
  | f :: fs => if (f s).isSome then some 0 else (fplace s fs).map (· + 1)
set_option maxRecDepth 100000 in
set_option maxHeartbeats 2000000 in
theorem findExt_yes (p : Nat) (l r : Value) (z : Int) (f : ByteArray → Option Value) (s : ByteArray) (n : Int) (w : World) (hb : Blk w p 92 #[l, r, .int .i64 z]) (hr : Sim w r f) (hv : Fv f) (hn : n ≤ 0) (hn2 : -1000 ≤ n) (hf : (f s).isSome = true) :
    Calls Tryd.prog 23 #[.iface 90 (.pointer (some ⟨p, 0, none⟩)), .int .i64 n, .string s] w (FoundTo w 0 (some 0)) := by
  have HR := Lib.hid hr
  obtain ⟨pr, m, rfl, b, hm⟩ := hr
  have t1 : ∀ w, (Instr.typeAssert (.iface 90 (.pointer (some ⟨p, 0, none⟩))) 58 90 true).run Tryd.prog w = .ok (.tuple #[.pointer (some ⟨p, 0, none⟩), .bool true]) w := fun _ => by kernel_rfl
  have c1 : w.cell? ⟨p, 1, none⟩ = some (.iface 93 (.pointer (some ⟨pr, 0, none⟩))) := hb.cell 1
  have hp := hb.lt
  have hd : decide (n < 1) = true := decide_eq_true (by omega)
  have HC : Hid (∀ w', Below w.heap.size w w' → Calls Tryd.prog 23 #[.iface 93 (.pointer (some ⟨pr, 0, none⟩)), .int .i64 n, .string s] w' (FoundTo w' 0 (some 0))) := fun w' hw => by
    have := findSim_any _ f s n w' (HR.out.below hw) hv hn
    rw [if_pos hf] at this
    exact this
  clear hm hb b hf
  go_enter Tryd.func23, Tryd.ntmps23
  go_wp2_with fail
  rw [sim_meth _ _ _ (by kernel_rfl)]
  go_wp2_with (go_at_call 72; refine (sizeSim_any _ _).mono ?_; rintro e w' ⟨rfl, rfl⟩)
  go_at_call 23
  refine (HC.out _ ((Below.refl _ _).alloc (Nat.le_refl _) _)).mono ?_
  rintro e w2 ⟨b2, h2, n2, rfl, hb2, hk2, -, hB2⟩
  obtain rfl : n2 = 0 := hk2 0 rfl
  simp only [Option.isSome_some] at hb2
  subst hb2
  have B7 : Blk w2 w.heap.size 66 #[.nilIface, .int .i64 0] := (Blk.new_at rfl).later hB2
  have q0 : w2.cell? ⟨w.heap.size, 0, none⟩ = some .nilIface := B7.cell 0
  have q1 : w2.cell? ⟨w.heap.size, 1, none⟩ = some (.int .i64 0) := B7.cell 1
  have f0 : w2.frozen? ⟨w.heap.size, 0, none⟩ = false := B7.frozen 0
  have f1 : w2.frozen? ⟨w.heap.size, 1, none⟩ = false := B7.frozen 1
  have hz : w.heap.size + 1 ≤ w2.heap.size := by have := hB2.size; simpa using this
  have BB7 := Lib.hid B7
  have HB2 := Lib.hid (((Below.refl w.heap.size w).alloc (Nat.le_refl _) _).trans (hB2.mono (by simp)))
  have n1 : w.heap.size ≠ w2.heap.size := by omega
  have n2 : w.heap.size < w2.heap.size := by omega
  clear hk2 hB2 B7
  go_wp2_with fail
  go_region_held3 (fun w' => w'.cell? ⟨w2.heap.size, 0, none⟩ = some .nilIface ∧ w'.cell? ⟨w2.heap.size, 1, none⟩ = some (.int .i64 h2)) (exact new_cells _ _ _ _ (by simp [World.setCell])) (fail)
  all_goals
    go_wp2
    have BF := Lib.hid (((BB7.out.set_ 0 .nilIface).set_ 1 (.int .i64 h2)).alloc (.cells #[.nilIface, .int .i64 h2] 66))
    have r0 : (((w2.setCell ⟨w.heap.size, 0, none⟩ .nilIface).setCell ⟨w.heap.size, 1, none⟩ (.int .i64 h2)).alloc (.cells #[.nilIface, .int .i64 h2] 66)).cell? ⟨w.heap.size, 0, none⟩ = some .nilIface := BF.out.cell 0
    have r1 : (((w2.setCell ⟨w.heap.size, 0, none⟩ .nilIface).setCell ⟨w.heap.size, 1, none⟩ (.int .i64 h2)).alloc (.cells #[.nilIface, .int .i64 h2] 66)).cell? ⟨w.heap.size, 1, none⟩ = some (.int .i64 h2) := BF.out.cell 1
    refine bodyPost_ret (v := .tuple #[.bool true, .agg #[.nilIface, .int .i64 h2], .map none, .slice none 0 0, .int .i64 0]) (by simp [results, Tryd.results23, go_sem, r0, r1]) rfl ⟨true, h2, 0, rfl, rfl, (fun k h => by cases h; rfl), by omega, ?_⟩
    exact ((((HB2.out.setCell (by simp) _).setCell (by simp) _).alloc (by simp [World.setCell]; omega) _).drew)
set_option maxRecDepth 100000 in
set_option maxHeartbeats 2000000 in
theorem findExt_no (p pl : Nat) (T : TypeId) (r : Value) (z M : Int) (o : Option Nat) (f : ByteArray → Option Value) (s : ByteArray) (n : Int) (w : World) (hb : Blk w p 92 #[.iface T (.pointer (some ⟨pl, 0, none⟩)), r, .int .i64 z]) (hr : Sim w r f) (hv : Fv f) (hn : n ≤ 0) (hn2 : -1000 ≤ n) (hM : M ≤ 1000) (hf : ¬ (f s).isSome = true)
    (hl : ∀ w', Below w.heap.size w w' → Calls Tryd.prog 23 #[.iface T (.pointer (some ⟨pl, 0, none⟩)), .int .i64 (n - 1), .string s] w' (FoundTo w' M o)) :
    Calls Tryd.prog 23 #[.iface 90 (.pointer (some ⟨p, 0, none⟩)), .int .i64 n, .string s] w (FoundTo w (M + 1) (o.map (· + 1))) := by
  have HR := Lib.hid hr
  have HL := Lib.hid hl
  obtain ⟨pr, m, rfl, b, hm⟩ := hr
  have t1 : ∀ w, (Instr.typeAssert (.iface 90 (.pointer (some ⟨p, 0, none⟩))) 58 90 true).run Tryd.prog w = .ok (.tuple #[.pointer (some ⟨p, 0, none⟩), .bool true]) w := fun _ => by kernel_rfl
  have c0 : w.cell? ⟨p, 0, none⟩ = some (.iface T (.pointer (some ⟨pl, 0, none⟩))) := hb.cell 0
  have c1 : w.cell? ⟨p, 1, none⟩ = some (.iface 93 (.pointer (some ⟨pr, 0, none⟩))) := hb.cell 1
  have hp := hb.lt
  have hd : decide (n < 1) = true := decide_eq_true (by omega)
  have HC : Hid (∀ w', Below w.heap.size w w' → Calls Tryd.prog 23 #[.iface 93 (.pointer (some ⟨pr, 0, none⟩)), .int .i64 n, .string s] w' (FoundTo w' 0 none)) := fun w' hw => by
    have := findSim_any _ f s n w' (HR.out.below hw) hv hn
    rw [if_neg hf] at this
    exact this
  clear hm hb b hf hl
  go_enter Tryd.func23, Tryd.ntmps23
  go_wp2_with fail
  rw [sim_meth _ _ _ (by kernel_rfl)]
  go_wp2_with (go_at_call 72; refine (sizeSim_any _ _).mono ?_; rintro e w' ⟨rfl, rfl⟩)
  go_at_call 23
  refine (HC.out _ ((Below.refl _ _).alloc (Nat.le_refl _) _)).mono ?_
  rintro e w2 ⟨b2, h2, m2, rfl, hb2, -, -, hB2⟩
  simp only [Option.isSome_none] at hb2
  subst hb2
  have B7 : Blk w2 w.heap.size 66 #[.nilIface, .int .i64 0] := (Blk.new_at rfl).later hB2
  have q0 : w2.cell? ⟨w.heap.size, 0, none⟩ = some .nilIface := B7.cell 0
  have q1 : w2.cell? ⟨w.heap.size, 1, none⟩ = some (.int .i64 0) := B7.cell 1
  have f0 : w2.frozen? ⟨w.heap.size, 0, none⟩ = false := B7.frozen 0
  have f1 : w2.frozen? ⟨w.heap.size, 1, none⟩ = false := B7.frozen 1
  have hz : w.heap.size + 1 ≤ w2.heap.size := by have := hB2.size; simpa using this
  have hB := (((Below.refl w.heap.size w).alloc (Nat.le_refl _) (.cells #[.nilIface, .int .i64 0] 66)).trans (hB2.mono (by simp)))
  have d0 := cell_below c0 hB
  have d1 := cell_below c1 hB
  have HB2 := Lib.hid hB
  have n1 : w.heap.size ≠ w2.heap.size := by omega
  have n2 : w.heap.size < w2.heap.size := by omega
  have BB7 := Lib.hid B7
  have hw1 : IntKind.i64.wrap (n - 1) = n - 1 := by rw [IntKind.wrap_i64]; omega
  have hp2 : p < w2.heap.size := by omega
  have hp3 : p ≠ w2.heap.size := by omega
  have HL2 : Hid (∀ w', Below w2.heap.size w2 w' → Calls Tryd.prog 23 #[.iface T (.pointer (some ⟨pl, 0, none⟩)), .int .i64 (n - 1), .string s] w' fun e w5 => FoundTo w' M o e w5 ∧ Below w2.heap.size w2 w5) := fun w' hw =>
    (HL.out w' (hB.trans (hw.mono hB.size))).mono fun e w5 h => ⟨h, by obtain ⟨_, _, _, _, _, _, _, hh⟩ := h; exact hw.trans (hh.mono hw.size)⟩
  clear hB2 B7 hB c0 c1 HL HC
  go_wp2_with fail
  go_region_held3 (fun w' => w'.cell? ⟨p, 0, none⟩ = some (.iface T (.pointer (some ⟨pl, 0, none⟩))) ∧ w'.cell? ⟨p, 1, none⟩ = some (.iface 93 (.pointer (some ⟨pr, 0, none⟩))))
    (first | go_keep | exact ⟨e0, e1⟩ | exact ⟨cell_al _ e0, cell_al _ e1⟩ | exact ⟨cell_set (cell_set e0 hp4 _) hp4 _, cell_set (cell_set e1 hp4 _) hp4 _⟩)
    (first
      | (rw [sim_meth _ _ _ (by kernel_rfl)]; go_simp; go_at_call 72; refine (sizeSim_any _ _).mono ?_; rintro e w' ⟨rfl, rfl⟩)
      | (go_at_call 23; refine (HL2.out _ (by first | exact ((Below.refl _ _).alloc (Nat.le_refl _) _).drew | exact (((Below.refl _ _).alloc (Nat.le_refl _) _).alloc (by simp) _).drew)).mono ?_; rintro e w5 ⟨⟨b5, h5, n5, rfl, hb5, hk5, hn5, hB5⟩, hW5⟩; have e0 := cell_below d0 hW5; have e1 := cell_below d1 hW5; try (have z8 := (Blk.drew (Blk.new_at (w := w2.alloc _) (n := w2.heap.size + 1) (t := 66) (cs := #[.nilIface, .int .i64 0]) (by simp))).later hB5; have y0 : w5.cell? ⟨w2.heap.size + 1, 0, none⟩ = some .nilIface := z8.cell 0; have y1 : w5.cell? ⟨w2.heap.size + 1, 1, none⟩ = some (.int .i64 0) := z8.cell 1; have y2 : w5.frozen? ⟨w2.heap.size + 1, 0, none⟩ = false := z8.frozen 0; have y3 : w5.frozen? ⟨w2.heap.size + 1, 1, none⟩ = false := z8.frozen 1; have hp4 : p ≠ w2.heap.size + 1 := by omega)))
  all_goals go_wp2_with fail
  all_goals
    have hgw : ∃ (g : Nat) (W : World), W = w5 ∧ g = w.heap.size := ⟨_, _, rfl, rfl⟩
    clear hgw
    have B5 := Lib.hid (BB7.out.later hW5)
    have hw5 := hW5.size
    have HB5 := Lib.hid (HB2.out.trans (hW5.mono (by omega)))
    first
      | (have BG := Lib.hid ((z8.set_ 0 .nilIface).set_ 1 (.int .i64 h5))
         have B6 := Lib.hid ((B5.out.far (p := ⟨w2.heap.size + 1, 0, none⟩) (by simp; omega) .nilIface).far (p := ⟨w2.heap.size + 1, 1, none⟩) (by simp; omega) (.int .i64 h5))
         have P1 := Lib.hid (cell_set (cell_set e1 (q := ⟨w2.heap.size + 1, 0, none⟩) hp4 .nilIface) (q := ⟨w2.heap.size + 1, 1, none⟩) hp4 (.int .i64 h5))
         have HB6 := Lib.hid ((HB5.out.setCell (p := ⟨w2.heap.size + 1, 0, none⟩) (by simp; omega) .nilIface).setCell (p := ⟨w2.heap.size + 1, 1, none⟩) (by simp; omega) (.int .i64 h5))
         have hgne : w2.heap.size + 1 ≠ w.heap.size := by omega
         clear z8 y0 y1 y2 y3
         generalize (w5.setCell ⟨w2.heap.size + 1, 0, none⟩ .nilIface).setCell ⟨w2.heap.size + 1, 1, none⟩ (.int .i64 h5) = W6 at BG B6 P1 HB6 ⊢
         generalize w2.heap.size + 1 = g at BG hgne ⊢)
      | (have BG := Lib.hid (Blk.new w5 66 #[.nilIface, .int .i64 h5])
         have B6 := Lib.hid (B5.out.alloc (.cells #[.nilIface, .int .i64 h5] 66))
         have P1 := Lib.hid (cell_al (.cells #[.nilIface, .int .i64 h5] 66) e1)
         have HB6 := Lib.hid (HB5.out.alloc (by omega) (.cells #[.nilIface, .int .i64 h5] 66))
         have hgne : w5.heap.size ≠ w.heap.size := by omega
         generalize w5.alloc (.cells #[.nilIface, .int .i64 h5] 66) = W6 at BG B6 P1 HB6 ⊢
         generalize w5.heap.size = g at BG hgne ⊢)
  all_goals
    have s0 : W6.cell? ⟨g, 0, none⟩ = some .nilIface := BG.out.cell 0
    have s1 : W6.cell? ⟨g, 1, none⟩ = some (.int .i64 h5) := BG.out.cell 1
    have s2 := P1.out
    have r0 : W6.cell? ⟨w.heap.size, 0, none⟩ = some .nilIface := B6.out.cell 0
    have r1 : W6.cell? ⟨w.heap.size, 1, none⟩ = some (.int .i64 0) := B6.out.cell 1
    have r2 : W6.frozen? ⟨w.heap.size, 0, none⟩ = false := B6.out.frozen 0
    have r3 : W6.frozen? ⟨w.heap.size, 1, none⟩ = false := B6.out.frozen 1
    have hpne : p ≠ w.heap.size := by omega
    have HK5 := Lib.hid hk5
    have Hb5 := Lib.hid hb5
    obtain ⟨hn5a, hn5b⟩ := hn5
    have hw5 : IntKind.i64.wrap (n5 + 1) = n5 + 1 := by rw [IntKind.wrap_i64]; omega
    clear hk5 hB5 hW5 e0 e1
    go_region_held3 (fun w' => w'.cell? ⟨g, 0, none⟩ = some .nilIface ∧ w'.cell? ⟨g, 1, none⟩ = some (.int .i64 h5) ∧ w'.cell? ⟨p, 1, none⟩ = some (.iface 93 (.pointer (some ⟨pr, 0, none⟩))))
      (first | exact ⟨s0, s1, s2⟩ | exact ⟨cell_set (cell_set s0 hgne _) hgne _, cell_set (cell_set s1 hgne _) hgne _, cell_set (cell_set s2 hpne _) hpne _⟩)
      ((rw [sim_meth _ _ _ (by kernel_rfl)]; go_simp; go_at_call 72; refine (sizeSim_any _ _).mono ?_; rintro e w' ⟨rfl, rfl⟩))
    go_wp2
    have BF := Lib.hid ((B6.out.set_ 0 .nilIface).set_ 1 (.int .i64 h5))
    have r0 : ((W6.setCell ⟨w.heap.size, 0, none⟩ .nilIface).setCell ⟨w.heap.size, 1, none⟩ (.int .i64 h5)).cell? ⟨w.heap.size, 0, none⟩ = some .nilIface := BF.out.cell 0
    have r1 : ((W6.setCell ⟨w.heap.size, 0, none⟩ .nilIface).setCell ⟨w.heap.size, 1, none⟩ (.int .i64 h5)).cell? ⟨w.heap.size, 1, none⟩ = some (.int .i64 h5) := BF.out.cell 1
    refine bodyPost_ret (v := .tuple #[.bool o.isSome, .agg #[.nilIface, .int .i64 h5], .map none, .slice none 0 0, .int .i64 (n5 + 1)]) (by simp [results, Tryd.results23, go_sem, r0, r1]) rfl ⟨o.isSome, h5, n5 + 1, rfl, by simp, (fun k hk => ?_), by omega, ?_⟩
    · cases o with
      | none => cases hk
      | some j =>
        simp at hk
        subst hk
        have := HK5.out j rfl
        omega
    · exact (((HB6.out.setCell (by simp) _).setCell (by simp) _).drew)
theorem FoundTo.weaken {w : World} {M N : Int} {o : Option Nat} {e : Ending} {w' : World} (h : FoundTo w M o e w') (hM : M ≤ N) : FoundTo w N o e w' := by
  obtain ⟨b, x, n, h1, h2, h3, ⟨h4, h5⟩, h6⟩ := h
  exact ⟨b, x, n, h1, h2, h3, ⟨h4, by omega⟩, h6⟩
theorem Tree.ptr {w : World} : ∀ {fs : List (ByteArray → Option Value)} {v : Value}, Tree w v fs → ∃ T p, v = .iface T (.pointer (some ⟨p, 0, none⟩))
  | [], _, h => False.elim h
  | [f], _, h => by
    obtain ⟨p, _, e, _⟩ := h
    exact ⟨_, _, e⟩
  | f :: g :: fs, _, h => by
    obtain ⟨p, _, _, e, _⟩ := h
    exact ⟨_, _, e⟩
theorem find_any (s : ByteArray) : ∀ (fs : List (ByteArray → Option Value)) (v : Value) (n : Int) (w : World), Tree w v fs → (∀ f ∈ fs, Fv f) → n ≤ 0 → -900 + (fs.length : Int) ≤ n → fs.length ≤ 900 →
    Calls Tryd.prog 23 #[v, .int .i64 n, .string s] w (FoundTo w fs.length (fplace s fs))
  | [], _, _, _, h, _, _, _, _ => False.elim h
  | [f], v, n, w, h, hf, hn, hn2, hl => by
    refine (findSim_any v f s n w h (hf f (by simp)) hn).mono fun e w' he => ?_
    have : fplace s [f] = if (f s).isSome then some 0 else none := by
      unfold fplace
      split
      · rfl
      · rfl
    rw [this]
    exact he.weaken (by simp)
  | f :: g :: fs, v, n, w, h, hf, hn, hn2, hl => by
    obtain ⟨p, l, r, rfl, hb, hr, ht⟩ := h
    have hl' : (g :: fs).length + 1 = (f :: g :: fs).length := rfl
    by_cases hs : (f s).isSome = true
    · refine (findExt_yes p l r _ f s n w hb hr (hf f (by simp)) hn (by simp only [List.length_cons] at hn2; omega) hs).mono fun e w' he => ?_
      have : fplace s (f :: g :: fs) = some 0 := by unfold fplace; rw [if_pos hs]
      rw [this]
      exact he.weaken (by omega)
    · obtain ⟨T, pl, rfl⟩ := ht.ptr
      have : fplace s (f :: g :: fs) = (fplace s (g :: fs)).map (· + 1) := by
        show (if (f s).isSome then some 0 else (fplace s (g :: fs)).map (· + 1)) = _
        rw [if_neg hs]
      rw [this]
      have hi := findExt_no p pl T r _ ((g :: fs).length : Int) (fplace s (g :: fs)) f s n w hb hr (hf f (by simp)) hn (by simp only [List.length_cons] at hn2; omega) (by omega) hs
        (fun w' hw => find_any s (g :: fs) _ (n - 1) w' (ht.below hw) (fun f' h' => hf f' (List.mem_cons_of_mem _ h')) (by omega) (by omega) (by omega))
      refine hi.mono fun e w' he => ?_
      exact he.weaken (by omega)
end Go.Proofs.YthmijakellfbiaaDoor
