/-
  spec.Given. Conditions: none.
-/
import Derived.Test.YtppmdncmjcknkaaBndK
namespace Go.Proofs.Ytppmdncmjcknkaa
open Go.RowKit
set_option linter.unusedVariables false
set_option linter.unusedSimpArgs false

theorem start_len (P : List ByteArray) (n : Nat) : (start P n).length = P.length := by simp [start]
theorem start_snoc {P : List ByteArray} {n k : Nat} (hk : k < P.length) : ints ((start P n).take (k + 1)) = ints ((start P n).take k) ++ [.int .i64 (if k < n then (k : Int) else -1)] := by
  rw [ints_snoc (by rw [start_len]; exact hk), start_at hk]
theorem ints_at {l : List Int} {k : Nat} (hk : k < l.length) : (ints l)[k]? = some (.int .i64 (l.getD k (-1))) := by
  unfold ints
  rw [List.getElem?_map, List.getElem?_eq_getElem hk, List.getD_eq_getElem?_getD, List.getElem?_eq_getElem hk]
  rfl
theorem ints_set (l : List Int) (k : Nat) (x : Int) : (ints l).set k (.int .i64 x) = ints (l.set k x) := by
  unfold ints
  rw [List.map_set]

set_option maxRecDepth 100000 in
set_option maxHeartbeats 1600000 in
theorem given_any (n : Nat) (hn : n ≤ 200) (A An : Option Addr) (c cn : Nat) (P N : List ByteArray) (hP : P.length ≤ 100) (hN : N.length ≤ 100) (w : World)
    (h : Reads w w.heap.size 1 A P.length (strs P)) (hN' : Reads w w.heap.size 1 An N.length (strs N)) :
    Calls Try.prog 7 #[.slice A P.length c, .int .i64 n, .slice An N.length cn] w (GivenP w (given P n N)) := by
  obtain ⟨i3, hi3, hz3, hz3', hz3''⟩ := info_parts info_int
  have HR := Lib.hid h
  have HN := Lib.hid hN'
  clear h hN'
  by_cases hnp : n ≤ P.length
  · have d0 : decide ((P.length : Int) < (n : Int)) = false := decide_eq_false (by omega)
    have d1 : decide (P.length < n) = false := decide_eq_false (by omega)
    go_enter Try.func7, Try.ntmps7
    go_wp2
    go_loopw [8, 9] (fun out i wr => ∃ k : Nat, k ≤ P.length ∧ i = .int .i64 k ∧ wr.ownsRow w.heap.size 3 1 out k (ints ((start P n).take k)) ∧ Below w.heap.size w wr) (fun _ i _ => P.length - (intOf i).toNat)
    case atStart => exact ⟨0, by omega, rfl, World.ownsRow_nil _ _ _ _, Below.refl _ _⟩
    case round =>
      obtain ⟨k, hk, rfl, ho, hbw⟩ := hrel
      have Ho := Lib.hid ho
      have Hza := Lib.hid ho.lt
      have Hbw := Lib.hid hbw
      have hsw := hbw.size
      clear ho hbw
      by_cases hlt : k < P.length
      · have Hst := Lib.hid (start_snoc (n := n) hlt)
        by_cases hkn : k < n
        · have e1 : decide (k < n) = true := decide_eq_true hkn
          go_wp2_with (at_builtin; refine wpList_append_lies _ rfl (.tmp 25) (.tmp 27) _ rfl w.heap.size 3 i3 _ 1 8 Try.underlying25 hi3 hz3 hz3' hz3'' rfl (by omega) u8 k (ints ((start P n).take k)) rfl (Ho.out.alloc _) ⟨wr.heap.size, 0, none⟩ 1 1 [.int .i64 k] rfl rfl (news_at _ _ _ _ (by simp)) (by simp [Value.oneCell']) (by omega) (by simp only [maxLen]; omega) (by omega) (by simp; omega) (wr.heap.size + 1) (by simp) ?_; intro g2 cap2 w4 hown4 hg4 hat4 hlt4)
          have hN := Lib.hid (show w4.ownsRow w.heap.size 3 1 (.slice (some ⟨g2, 0, none⟩) (k + 1) cap2) (k + 1) (ints ((start P n).take (k + 1))) from by rw [Hst.out, if_pos hkn]; exact hown4)
          have hB := Lib.hid (Hbw.out.trans ((((Below.refl _ _).alloc (Nat.le_refl _) _).mono Hbw.out.size).grown hg4 (by have := Hbw.out.size; simp; omega) (fun a ha => (Hza.out a ha).1)))
          clear hown4 hg4 hat4 hlt4
          go_wp2
          go_roundw
          case rel => exact ⟨k + 1, by omega, by go_num, hN.out, hB.out⟩
          case measure => simp [intOf]; omega
        · have e1 : decide (k < n) = false := decide_eq_false hkn
          go_wp2_with (at_builtin; refine wpList_append_lies _ rfl (.tmp 29) (.tmp 30) _ rfl w.heap.size 3 i3 _ 1 8 Try.underlying25 hi3 hz3 hz3' hz3'' rfl (by omega) u8 k (ints ((start P n).take k)) rfl (Ho.out.alloc _) ⟨wr.heap.size, 0, none⟩ 1 1 [.int .i64 (-1)] rfl rfl (news_at _ _ _ _ (by simp)) (by simp [Value.oneCell']) (by omega) (by simp only [maxLen]; omega) (by omega) (by simp; omega) (wr.heap.size + 1) (by simp) ?_; intro g2 cap2 w4 hown4 hg4 hat4 hlt4)
          have hN := Lib.hid (show w4.ownsRow w.heap.size 3 1 (.slice (some ⟨g2, 0, none⟩) (k + 1) cap2) (k + 1) (ints ((start P n).take (k + 1))) from by rw [Hst.out, if_neg hkn]; exact hown4)
          have hB := Lib.hid (Hbw.out.trans ((((Below.refl _ _).alloc (Nat.le_refl _) _).mono Hbw.out.size).grown hg4 (by have := Hbw.out.size; simp; omega) (fun a ha => (Hza.out a ha).1)))
          clear hown4 hg4 hat4 hlt4
          go_wp2
          go_roundw
          case rel => exact ⟨k + 1, by omega, by go_num, hN.out, hB.out⟩
          case measure => simp [intOf]; omega
      · obtain rfl : P.length = k := by omega
        have ho := Ho.out
        rw [List.take_of_length_le (by rw [start_len]; omega)] at ho
        have Ho2 := Lib.hid ho
        obtain ⟨Av, cv, rfl, hcv⟩ := own_form ho
        clear ho Ho
        go_wp2
        obtain ⟨wo, rfl⟩ : ∃ wo : World, wo = wr := ⟨_, rfl⟩
        go_loopw [10] (fun i wr => ∃ (k : Nat) (out : List Int), k ≤ N.length ∧ i = .int .i64 k ∧ wr.ownsRow w.heap.size 3 1 (.slice Av P.length cv) P.length (ints out) ∧ Stage P n N k out ∧ Below w.heap.size w wr) (fun i _ => N.length - (intOf i).toNat)
        case atStart => exact ⟨0, start P n, by omega, rfl, Ho2.out, stage_zero P n N, Hbw.out⟩
        case round =>
          obtain ⟨k, out, hk, rfl, ho, hst, hbw⟩ := hrel
          have hlen := hst.len
          have Hb2 := Lib.hid hbw
          have Ho3 := Lib.hid ho
          have HSt := Lib.hid hst
          have hsw2 := hbw.size
          by_cases hlt : k < N.length
          · obtain ⟨ad, s, rfl, hb, hs, hc0⟩ := HN.out.line hlt
            have hc := (hbw.cell (p := ad.add k) (by rw [block_of_add]; exact hb)).trans hc0
            have Hs := Lib.hid hs
            clear ho hst hbw hs hc0
            go_wp2_with fail
            go_at_call 13
            refine (place_any A c P s wr hP ((HR.out.below Hb2.out).more hsw2)).mono ?_
            rintro e' w' ⟨rfl, rfl⟩
            cases hp : place P s with
            | none =>
              have HG : Hid (given P n N = none) := HSt.out.no Hs.out (.inl hp)
              have hpi : placeI P s = -1 := by unfold placeI; rw [hp]
              rw [hpi]
              clear hp hpi
              go_wp2
              go_ret2
              show GivenP w _ _ _
              rw [HG.out]
              exact ⟨rfl, Hb2.out⟩
            | some a =>
              have hpi : placeI P s = (a : Int) := by unfold placeI; rw [hp]
              have hap : a < P.length := (List.getElem?_eq_some_iff.1 (place_some hp)).1
              obtain ⟨g, cap, hv, hgb, hgl⟩ := Ho3.out.form (by omega)
              injection hv with hA1 _ hc1
              have HA1 := Lib.hid hA1
              subst hA1
              subst hc1
              have q0 : wr.cell? ⟨g, a, none⟩ = some (.int .i64 (out.getD a (-1))) := (Ho3.out.cellAt a (by omega)).trans (ints_at (by omega))
              have q1 : wr.frozen? ⟨g, a, none⟩ = false := Ho3.out.frozenAt a
              rw [hpi]
              have z0 : (0 : Int) ≤ (a : Int) := by omega
              have z1 : (a : Int) < (P.length : Int) := by omega
              by_cases hoa : 0 ≤ out.getD a (-1)
              · have HG : Hid (given P n N = none) := HSt.out.no Hs.out (.inr ⟨a, hp, hoa⟩)
                have e1 : decide (0 ≤ out.getD a (-1)) = true := decide_eq_true hoa
                generalize out.getD a (-1) = y at *
                clear hp hpi hlen
                go_wp2
                go_ret2
                show GivenP w _ _ _
                rw [HG.out]
                exact ⟨rfl, Hb2.out⟩
              · have HS2 := Lib.hid (HSt.out.next Hs.out hp (by omega))
                have e1 : decide (0 ≤ out.getD a (-1)) = false := decide_eq_false hoa
                have hset := (Ho3.out.stored a (.int .i64 ((n + k : Nat) : Int))).1
                rw [ints_set] at hset
                have HSet := Lib.hid hset
                have hcast : ((n + k : Nat) : Int) = (n : Int) + (k : Int) := by omega
                have Hcast := Lib.hid hcast
                have hB3 := Lib.hid (Hb2.out.setCell (p := ⟨g, a, none⟩) hgb (.int .i64 ((n + k : Nat) : Int)))
                generalize out.getD a (-1) = y at q0 hoa e1
                clear hp hpi hlen hset hcast
                go_wp2
                go_roundw
                case rel => exact ⟨k + 1, _, by omega, by go_num, by have := HSet.out; rw [Hcast.out] at this; exact this, by have := HS2.out; rw [Hcast.out] at this; exact this, by have := hB3.out; rw [Hcast.out] at this; exact this⟩
                case measure => simp [intOf]; omega
          · obtain rfl : N.length = k := by omega
            have HG := Lib.hid (hst.full hnp)
            have Hl := Lib.hid hlen
            clear ho hst hbw hlen
            go_wp2
            go_ret2
            show GivenP w _ _ _
            rw [HG.out]
            exact ⟨_, rfl, by rw [Hl.out]; exact Ho3.out, Hb2.out⟩
  · have d0 : decide ((P.length : Int) < (n : Int)) = true := decide_eq_true (by omega)
    have d1 : decide (P.length < n) = true := decide_eq_true (by omega)
    have HG : Hid (given P n N = none) := if_neg hnp
    clear hnp
    go_enter Try.func7, Try.ntmps7
    go_wp2
    go_ret2
    show GivenP w _ _ _
    rw [HG.out]
    exact ⟨rfl, Below.refl _ _⟩
end Go.Proofs.Ytppmdncmjcknkaa
