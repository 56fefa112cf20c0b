/-
  PartBound. Conditions: none.
-/
import Derived.Test.YtppmdncmjcknkaaBndI
import Derived.Deep.RegionWith
import Derived.Deep.DrawnRows
namespace Go.Proofs.Ytppmdncmjcknkaa
open Go.RowKit
set_option linter.unusedVariables false
set_option linter.unusedSimpArgs false

theorem PosOk.base {w : World} {base base' n : Nat} {v : Value} (h : PosOk w base n v) (hb : base' ≤ base) : PosOk w base' n v := by
  obtain ⟨ts, h1, h2⟩ := h
  exact ⟨ts, own_base h1 hb, h2⟩
theorem NamOk.base {w : World} {base base' n k : Nat} {v : Value} {N : List ByteArray} (h : NamOk w base n k v N) (hb : base' ≤ base) : NamOk w base' n k v N := by
  obtain ⟨xs, h1, h2⟩ := h
  exact ⟨xs, own_base h1 hb, h2⟩
theorem below_drew {B : Nat} {w w' : World} (h : Below B w.drew w') : Below B w w' := ⟨h.os, h.tape, h.output, h.size, h.block⟩
theorem below_drew' {w w' : World} (h : Below w.drew.heap.size w.drew w') : Below w.heap.size w w' := ⟨h.os, h.tape, h.output, h.size, h.block⟩

theorem fillN_le {P : List ByteArray} {pos M : Nat} : ∀ {N : List ByteArray} {k : Nat} {out o : List Int}, fillN P pos k N out = some o → (∀ i, out.getD i (-1) ≤ (M : Int)) → pos + k + N.length ≤ M → ∀ i, o.getD i (-1) ≤ (M : Int)
  | [], k, out, o, h, hg, _, i => by simp [fillN] at h; rw [← h]; exact hg i
  | n :: N, k, out, o, h, hg, hM, i => by
    simp only [fillN] at h
    simp only [List.length_cons] at hM
    cases hp : place P n with
    | none => rw [hp] at h; simp at h
    | some a =>
      rw [hp] at h
      simp only at h
      split at h
      · simp at h
      · refine fillN_le h (fun j => ?_) (by omega) i
        rw [List.getD_eq_getElem?_getD, List.getElem?_set]
        split
        · split
          · simp; omega
          · simp
        · rw [← List.getD_eq_getElem?_getD]; exact hg j
theorem given_le {P : List ByteArray} {pos : Nat} {N : List ByteArray} {l : List Int} (h : given P pos N = some l) (i : Nat) : l.getD i (-1) ≤ ((pos + N.length + P.length : Nat) : Int) := by
  unfold given at h
  split at h
  · refine fillN_le h (fun j => ?_) (by omega) i
    by_cases hj : j < P.length
    · rw [start_at hj]; split <;> omega
    · rw [start_big (by omega)]; omega
  · cases h
theorem given_len {P : List ByteArray} {pos : Nat} {N : List ByteArray} {l : List Int} (h : given P pos N = some l) : l.length = P.length := by
  unfold given at h
  split at h
  · rw [stage_len h]; simp [start]
  · cases h
set_option maxRecDepth 100000 in
theorem conv_some {y : Nat} {x : Int} (h : floatToIntVal .f64 y .i64 = some x) (w : World) : (convert 56 3 (.float .f64 y)).run Try.prog w = .ok (.int .i64 x) w := by
  unfold floatToIntVal at h
  have hs : Try.prog.underlying 56 = some (.float .f64) := Try.underlying56
  split at h
  · rename_i m he
    split at h
    · rename_i hb
      injection h with h
      subst h
      simp only [convert, run_underlying hs, run_underlying Try.underlying3, Conv.floatToInt, he, Sem.run_bind, Result.andThen, if_pos hb, Sem.run_pure]
    · cases h
  · cases h
def ints (l : List Int) : List Value := l.map (Value.int .i64)
theorem ints_snoc {l : List Int} {k : Nat} (h : k < l.length) : ints (l.take (k + 1)) = ints (l.take k) ++ [.int .i64 (l.getD k (-1))] := by
  unfold ints
  rw [List.take_succ_eq_append_getElem h, List.map_append, List.getD_eq_getElem?_getD, List.getElem?_eq_getElem h]
  rfl
/-- A list of integers of the call's own. -/
def Nums (w : World) (l : List Int) (e : Ending) (w' : World) : Prop := ∃ v, e = .returned v ∧ w'.ownsRow w.heap.size 3 1 v l.length (ints l) ∧ Below w.heap.size w w'

set_option maxRecDepth 100000 in
set_option maxHeartbeats 3200000 in
theorem part_bound (n : Nat) (hn : n ≤ 200) (A An : Option Addr) (c cn : Nat) (P N : List ByteArray) (l : List Int) (hg : given P n N = some l) (hP : P.length ≤ 100) (hN : N.length ≤ 100) (hA : Apart P) (w : World)
    (h : Reads w w.heap.size 1 A P.length (strs P)) (hN' : Reads w w.heap.size 1 An N.length (strs N)) :
    Calls Try.prog 15 #[.slice A P.length c, .int .i64 n, .slice An N.length cn] w (Nums w l) := by
  obtain ⟨i3, hi3, hz3, hz3', hz3''⟩ := info_parts info_int
  have hll := given_len hg
  have Hle := Lib.hid (given_le hg)
  have hmk := fun (W : World) => run_make_one (P := Try.prog) 52 64 Try.underlying52 (z := Value.nilIface) (bytes := 16) (by kernel_rfl) rfl .i64 .i64 P.length (by omega) (by omega) W
  have HR := Lib.hid h
  have HN := Lib.hid hN'
  have HA := Lib.hid hA
  have HG := Lib.hid hg
  clear h hN' hA hg
  go_enter Try.func15, Try.ntmps15
  go_wp2_with fail
  go_region_with (first
    | (go_at_call 21; refine (arguments_any n hn An cn N hN _ (by first | exact HN.out | exact (HN.out.alloc (Nat.le_refl _) _).more (by simp))).mono ?_; rintro e' w1 ⟨vp, vn, rfl, hpos, hnam, hb1⟩; have hW1 : Below w.heap.size w w1 := (by first | exact below_drew hb1 | exact ((Below.refl _ _).alloc (Nat.le_refl _) _).trans ((below_drew' hb1).mono (by simp))); have hP1 := hpos.base (base' := w.heap.size) (by simp); have hN1 := hnam.base (base' := w.heap.size) (by simp); clear hpos hnam)
    | (go_at_call 22; refine (params_nil A c P hP _ (by first | exact (HR.out.below hW1).more hW1.size | exact ((HR.out.below hW1).alloc hW1.size _).more (by have := hW1.size; simp; omega))).mono ?_; rintro e' w2 ⟨pv, rfl, hpar, hb2⟩; have hW2 : Below w1.heap.size w1 w2 := (by first | exact hb2 | exact ((Below.refl _ _).alloc (Nat.le_refl _) _).trans (hb2.mono (by simp))); have hPar2 := hpar.base (base' := w.heap.size) (by have := hW1.size; first | exact this | (simp; omega)); clear hpar)
    | (go_at_call 20; refine (flatten_any n _ w.heap.size vp vn pv P N l _ HG.out (by first | exact hP1.below hW2 | exact (hP1.below hW2).below ((Below.refl _ _).alloc (Nat.le_refl _) _)) (by first | exact hN1.below hW2 | exact (hN1.below hW2).below ((Below.refl _ _).alloc (Nat.le_refl _) _)) (by first | exact hPar2 | exact hPar2.below ((Below.refl _ _).alloc (Nat.le_refl _) _)) (by first | exact Blk.new w2 _ _ | exact (Blk.new w1 _ _).later hb2 | exact ((Blk.new w _ _).later (below_drew' hb1)).later hb2) hP hN hn HA.out).mono ?_; rintro e' w3 ⟨F, vs, rfl, hF1, hF2, hF3, hF4, hF5⟩; have hZ : Below w2.heap.size w2 w3 := (by first | exact hF5 | exact ((Below.refl _ _).alloc (Nat.le_refl _) _).trans (hF5.mono (by simp))); have hW3 : Below w.heap.size w w3 := hW1.trans ((hW2.trans (hZ.mono hW2.size)).mono hW1.size); clear hF1 hF5 hZ))
  all_goals
    have hw3 := hW3.size
    have hs23 := hF2.lt
    have HF2 := Lib.hid hF2
    have HF3 := Lib.hid hF3
    have HF4 := Lib.hid hF4
    have HW3 := Lib.hid hW3
    clear hb1 hW1 hP1 hN1 hb2 hW2 hPar2 hF2 hF3 hF4 hW3
    go_wp2
    simp only [List.getElem_toArray, List.getElem_cons_succ, List.getElem_cons_zero, Act.put, List.setIfInBounds_toArray, List.set_cons_succ, List.set_cons_zero]
    go_loopw [7, 20] (fun out i wr => ∃ k : Nat, k ≤ P.length ∧ i = .int .i64 k ∧ wr.ownsRow w3.heap.size 3 1 out k (ints (l.take k)) ∧ Below w3.heap.size w3 wr) (fun _ i _ => P.length - (intOf i).toNat)
    case atStart => exact ⟨0, by omega, rfl, World.ownsRow_nil _ _ _ _, Below.refl _ _⟩
    case round =>
      obtain ⟨k, hk, rfl, hzs, hbw⟩ := hrel
      have Hzs := Lib.hid hzs
      have Hza := Lib.hid hzs.lt
      have Hbw := Lib.hid hbw
      have hsw := hbw.size
      by_cases hlt : k < P.length
      · obtain ⟨u, hu, hu2⟩ := HF4.out k (by rw [HF3]; exact hlt)
        have q0 : wr.cell? ⟨F, k, none⟩ = some u := by
          rw [(HF2.out.later hbw).cell k]
          simpa using hu
        have z0 : (0 : Int) ≤ (k : Int) := by omega
        have z1 : (k : Int) < (P.length : Int) := by omega
        have hx400 := Hle.out k
        clear hu hzs hbw
        rcases hu2 with ⟨hx, rfl⟩ | ⟨hx0, hthk⟩
        · have Hx := Lib.hid hx
          clear hx hx400
          go_wp2_with (at_builtin; refine wpList_append_lies _ rfl (.tmp 26) (.tmp 27) _ rfl w3.heap.size 3 i3 _ 1 8 Try.underlying25 hi3 hz3 hz3' hz3'' rfl (by omega) u7 k (ints (l.take k)) rfl (Hzs.out.alloc _) ⟨wr.heap.size, 0, none⟩ 1 1 [.int .i64 (-1)] rfl rfl (news_at _ _ _ _ (by simp)) (by simp [Value.oneCell']) (by omega) (by simp only [maxLen]; omega) (by omega) (by simp; omega) (wr.heap.size + 1) (by simp) ?_; intro g2 cap2 w4 hown4 hg4 hat4 hlt4)
          have hN := Lib.hid (show w4.ownsRow w3.heap.size 3 1 (.slice (some ⟨g2, 0, none⟩) (k + 1) cap2) (k + 1) (ints (l.take (k + 1))) from by rw [ints_snoc (by omega), Hx.out]; exact hown4)
          have hB := Lib.hid (Hbw.out.trans ((((Below.refl _ _).alloc (Nat.le_refl _) _).mono Hbw.out.size).grown hg4 (by have := Hbw.out.size; simp; omega) (fun a ha => (Hza.out a ha).1)))
          clear hown4 hg4 hat4 hlt4
          go_wp2
          go_roundw
          case rel => exact ⟨k + 1, by omega, by go_num, hN.out, hB.out⟩
          case measure => simp [intOf]; omega

        · obtain ⟨x, hx⟩ : ∃ x, l.getD k (-1) = x := ⟨_, rfl⟩
          rw [hx] at hx0 hx400 hthk
          have Hx := Lib.hid hx
          clear hx
          obtain ⟨pt, pp, rfl, hb1, hb2⟩ := hthk.keep (NumKeep.below Hbw.out)
          have hfb := fun (w : World) => conv_some (int_back x (by omega)) w
          have q1 : wr.cell? ⟨pt, 2, none⟩ = some (.iface 59 (.pointer (some ⟨pp, 0, none⟩))) := hb1.cell 2
          have q2 : wr.cell? ⟨pp, 0, none⟩ = some (.float .f64 (floatOfInt .f64 x)) := hb2.cell 0
          have hta : ∀ w, (Instr.typeAssert (.iface 59 (.pointer (some ⟨pp, 0, none⟩))) 64 59 false).run Try.prog w = .ok (.pointer (some ⟨pp, 0, none⟩)) w := fun _ => by kernel_rfl
          clear hb1 hb2 hthk
          go_wp2_with (at_builtin; refine wpList_append_lies _ rfl (.tmp 29) (.tmp 39) _ rfl w3.heap.size 3 i3 _ 1 8 Try.underlying25 hi3 hz3 hz3' hz3'' rfl (by omega) u7 k (ints (l.take k)) rfl (Hzs.out.alloc _) ⟨wr.heap.size, 0, none⟩ 1 1 [.int .i64 x] rfl rfl (news_at _ _ _ _ (by simp)) (by simp [Value.oneCell']) (by omega) (by simp only [maxLen]; omega) (by omega) (by simp; omega) (wr.heap.size + 1) (by simp) ?_; intro g2 cap2 w4 hown4 hg4 hat4 hlt4)
          have hN := Lib.hid (show w4.ownsRow w3.heap.size 3 1 (.slice (some ⟨g2, 0, none⟩) (k + 1) cap2) (k + 1) (ints (l.take (k + 1))) from by rw [ints_snoc (by omega), Hx.out]; exact hown4)
          have hB := Lib.hid (Hbw.out.trans ((((Below.refl _ _).alloc (Nat.le_refl _) _).mono Hbw.out.size).grown hg4 (by have := Hbw.out.size; simp; omega) (fun a ha => (Hza.out a ha).1)))
          clear hown4 hg4 hat4 hlt4
          go_wp2
          go_roundw
          case rel => exact ⟨k + 1, by omega, by go_num, hN.out, hB.out⟩
          case measure => simp [intOf]; omega

      · obtain rfl : P.length = k := by omega
        have hown : wr.ownsRow w.heap.size 3 1 u7 l.length (ints l) := by
          have := own_base hzs (base' := w.heap.size) hw3
          rw [List.take_of_length_le (by omega)] at this
          rw [hll]; exact this
        have HO := Lib.hid hown
        have HB := Lib.hid (HW3.out.trans (hbw.mono hw3))
        clear hzs hbw hown
        go_wp2
        go_ret
        exact ⟨_, rfl, HO.out, HB.out⟩
end Go.Proofs.Ytppmdncmjcknkaa
