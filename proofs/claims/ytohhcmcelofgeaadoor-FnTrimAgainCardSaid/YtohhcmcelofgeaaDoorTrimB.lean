/-
  Letters read at both ends, white space, and what is left of a text when it is taken away. Conditions: the two tables of the library's lie there.
-/
import Derived.Test.YtohhcmcelofgeaaDoorTrimA
import Derived.Test.YtohhcmcelofgeaaDoorLay
namespace Go.Proofs.YtohhcmcelofgeaaDoor
open Go.RowKit
set_option linter.unusedVariables false
set_option linter.unusedSimpArgs false

/-- The two tables lie there. -/
def Tabs (w : World) : Prop := Lib.Utf8Tabs (lays197_ren.g 3) (lays197_ren.g 4) w
theorem Tabs.below {w w' : World} (h : Tabs w) (hb : Below w.heap.size w w') : Tabs w' := by
  have key : ∀ {p : Addr} {v : Value}, w.cell? p = some v → w'.cell? p = some v := fun h => (hb.cell (World.block_lt_of_cell? _ _ h)).trans h
  exact ⟨fun c hc => key (h.1 c hc), fun i hi => ⟨key (h.2 i hi).1, key (h.2 i hi).2⟩⟩

theorem dec_head {t : ByteArray} {x : Nat} {m : List Nat} (h : Is t (x :: m)) (w : World) (hT : Tabs w) :
    Calls Tryd.prog 26 #[.string t] w fun e w' => e = .returned (.tuple #[.int .i32 (x : Int), .int .i64 ((enc x).length : Int)]) ∧ Below w.heap.size w w' := by
  obtain ⟨h1, h2, _⟩ := h.head
  have hp := h.pos (by simp)
  have hd : Lib.decodeGo t = (x, (enc x).length) := by unfold Lib.decodeGo; rw [if_neg (by omega), h1]
  have := Any.utf8_DecodeRuneInString lays197 t w hT
  rw [hd] at this
  exact this
theorem dec_last {t : ByteArray} {x : Nat} {m : List Nat} (h : Is t (m ++ [x])) (ht : t.size ≤ 10000) (w : World) (hT : Tabs w) :
    Calls Tryd.prog 28 #[.string t] w fun e w' => e = .returned (.tuple #[.int .i32 (x : Int), .int .i64 ((enc x).length : Int)]) ∧ Below w.heap.size w w' := by
  obtain ⟨h1, h2, _⟩ := h.last
  have := Any.utf8_DecodeLastRuneInString lays271 t w (by omega) hT
  rw [h1] at this
  exact this

set_option maxRecDepth 100000 in
theorem space_any (x : Nat) (hx : x < 1114112) (w : World) : Calls Tryd.prog 27 #[.int .i32 (x : Int)] w fun e w' => e = .returned (.bool (sp x)) ∧ w = w' := by
  by_cases hc : x = 9 ∨ x = 10 ∨ x = 11 ∨ x = 12 ∨ x = 13 ∨ x = 32 ∨ x = 133 ∨ x = 160 ∨ x = 5760 ∨ x = 8232 ∨ x = 8233 ∨ x = 8239 ∨ x = 8287 ∨ x = 12288
  · rcases hc with rfl | rfl | rfl | rfl | rfl | rfl | rfl | rfl | rfl | rfl | rfl | rfl | rfl | rfl
    all_goals
      go_enter Tryd.func27, Tryd.ntmps27
      go_wp2
      go_ret
      exact ⟨rfl, rfl⟩
  · obtain ⟨m, hm⟩ : ∃ m : Int, m = (x : Int) := ⟨_, rfl⟩
    rw [← hm]
    have q0 : (m == 9) = false := by simp; omega
    have q1 : (m == 10) = false := by simp; omega
    have q2 : (m == 11) = false := by simp; omega
    have q3 : (m == 12) = false := by simp; omega
    have q4 : (m == 13) = false := by simp; omega
    have q5 : (m == 32) = false := by simp; omega
    have q6 : (m == 133) = false := by simp; omega
    have q7 : (m == 160) = false := by simp; omega
    have q8 : (m == 5760) = false := by simp; omega
    have q9 : (m == 8232) = false := by simp; omega
    have q10 : (m == 8233) = false := by simp; omega
    have q11 : (m == 8239) = false := by simp; omega
    have q12 : (m == 8287) = false := by simp; omega
    have q13 : (m == 12288) = false := by simp; omega
    have hd : x < 8192 ∨ (8192 ≤ x ∧ x ≤ 8202) ∨ 8202 < x := by omega
    rcases hd with hd | ⟨hd1, hd2⟩ | hd
    · have r1 : ¬ 8192 ≤ m := by omega
      have hs : sp x = false := by unfold sp Lib.isSpaceR; simp; omega
      have HS := Lib.hid hs
      clear hs hc hm hd hx
      go_enter Tryd.func27, Tryd.ntmps27
      go_wp2
      go_ret
      exact ⟨by rw [HS.out]; rfl, rfl⟩
    · have r1 : 8192 ≤ m := by omega
      have r2 : m ≤ 8202 := by omega
      have hs : sp x = true := by unfold sp Lib.isSpaceR; simp; omega
      have HS := Lib.hid hs
      clear hs hc hm hd1 hd2 hx
      go_enter Tryd.func27, Tryd.ntmps27
      go_wp2
      go_ret
      exact ⟨by rw [HS.out]; rfl, rfl⟩
    · have r1 : 8192 ≤ m := by omega
      have r2 : ¬ m ≤ 8202 := by omega
      have hs : sp x = false := by unfold sp Lib.isSpaceR; simp; omega
      have HS := Lib.hid hs
      clear hs hc hm hd hx
      go_enter Tryd.func27, Tryd.ntmps27
      go_wp2
      go_ret
      exact ⟨by rw [HS.out]; rfl, rfl⟩

def lenOf : Value → Nat
  | .string s => s.size
  | _ => 0
def TextTo (w : World) (l : List Nat) (n : Nat) (e : Ending) (w' : World) : Prop := ∃ t, e = .returned (.string t) ∧ Is t l ∧ t.size ≤ n ∧ Below w.heap.size w w'
theorem sc_lt {x : Nat} (h : Sc x) : x < 1114112 := by unfold Sc at h; omega

set_option maxRecDepth 100000 in
set_option maxHeartbeats 2000000 in
theorem trim_any (s : ByteArray) (l : List Nat) (h : Is s l) (hs : s.size ≤ 10000) (w : World) (hT : Tabs w) :
    Calls Tryd.prog 22 #[.string s] w (TextTo w (trm l) s.size) := by
  have H := Lib.hid h
  have HT := Lib.hid hT
  clear h hT
  go_enter Tryd.func22, Tryd.ntmps22
  go_wp2
  go_loopw [0] (fun v wr => ∃ (t : ByteArray) (m : List Nat), v = .string t ∧ Is t m ∧ Hid (dropL m = dropL l) ∧ t.size ≤ s.size ∧ Below w.heap.size w wr) (fun v _ => lenOf v)
  case atStart => exact ⟨s, l, rfl, H.out, rfl, by omega, Below.refl _ _⟩
  case round =>
    obtain ⟨t, m, rfl, hm, hdr, hts, hbw⟩ := hrel
    obtain ⟨wo, rfl⟩ : ∃ wo : World, wo = wr := ⟨_, rfl⟩
    have HM := Lib.hid hm
    have HB := Lib.hid hbw
    have hsz := hbw.size
    clear hm hbw
    by_cases hlt : 0 < t.size
    · obtain ⟨x, m', rfl⟩ : ∃ x m', m = x :: m' := by
        cases m with
        | nil => have : t.size = 0 := HM.out.size; omega
        | cons x m' => exact ⟨x, m', rfl⟩
      obtain ⟨hd1, hd2, hd3⟩ := HM.out.head
      have Hx : Hid (Sc x) := HM.out.2 x (by simp)
      have hp := enc_pos x
      obtain ⟨n, hn⟩ : ∃ n : Nat, n = (enc x).length := ⟨_, rfl⟩
      have hdc := dec_head HM.out wo (HT.out.below HB.out)
      rw [← hn] at hd2 hd3 hp hdc
      have HDC := Lib.hid hdc
      have HD3 := Lib.hid hd3
      clear hn hd1 hd3 hdc
      go_wp2_with fail
      go_at_call 26
      refine HDC.out.mono ?_
      rintro e' w1 ⟨rfl, hb1⟩
      have HB1 := Lib.hid (HB.out.trans (hb1.mono hsz))
      clear hb1
      cases hsp : sp x
      · have Hsp := Lib.hid hsp
        clear hsp
        go_wp2_with fail
        go_at_call 27
        refine (space_any x (sc_lt Hx.out) w1).mono ?_
        rintro e' w' ⟨he, rfl⟩
        rw [Hsp.out] at he
        subst he
        have HL : Hid (dropL l = x :: m') := by show _ = _; rw [← hdr.out, dropL_cons, Hsp.out]; simp
        have HM2 : Hid (Is t (dropL l)) := by show Is _ _; rw [HL.out]; exact HM.out
        clear hdr
        go_wp2
        go_loopw [0] (fun v wr => ∃ (t : ByteArray) (m : List Nat), v = .string t ∧ Is t m ∧ Hid (dropR m = trm l) ∧ t.size ≤ s.size ∧ Below w.heap.size w wr) (fun v _ => lenOf v)
        case atStart => exact ⟨t, dropL l, rfl, HM2.out, rfl, by omega, HB1.out⟩
        case round =>
          obtain ⟨t2, m2, rfl, hm2, hdr2, hts2, hbw2⟩ := hrel
          obtain ⟨wi, rfl⟩ : ∃ wi : World, wi = wr := ⟨_, rfl⟩
          have HM3 := Lib.hid hm2
          have HB3 := Lib.hid hbw2
          have hsz2 := hbw2.size
          clear hm2 hbw2
          by_cases hlt2 : 0 < t2.size
          · obtain ⟨x2, m3, rfl⟩ : ∃ x2 m3, m2 = m3 ++ [x2] := by
              rcases List.eq_nil_or_concat m2 with rfl | ⟨m3, x2, rfl⟩
              · have : t2.size = 0 := HM3.out.size; omega
              · exact ⟨x2, m3, by simp⟩
            obtain ⟨hd4, hd5, hd6⟩ := HM3.out.last
            have Hx2 : Hid (Sc x2) := HM3.out.2 x2 (by simp)
            have hp2 := enc_pos x2
            obtain ⟨n2, hn2⟩ : ∃ n2 : Nat, n2 = (enc x2).length := ⟨_, rfl⟩
            have hdc2 := dec_last HM3.out (by omega) wi (HT.out.below HB3.out)
            rw [← hn2] at hd5 hd6 hp2 hdc2
            have HDC2 := Lib.hid hdc2
            have HD6 := Lib.hid hd6
            clear hn2 hd4 hd6 hdc2
            go_wp2_with fail
            go_at_call 28
            refine HDC2.out.mono ?_
            rintro e' w4 ⟨rfl, hb4⟩
            have HB4 := Lib.hid (HB3.out.trans (hb4.mono hsz2))
            clear hb4
            cases hsp2 : sp x2
            · have Hsp2 := Lib.hid hsp2
              clear hsp2
              go_wp2_with fail
              go_at_call 27
              refine (space_any x2 (sc_lt Hx2.out) w4).mono ?_
              rintro e' w' ⟨he, rfl⟩
              rw [Hsp2.out] at he
              subst he
              have HL2 : Hid (m3 ++ [x2] = trm l) := by show _ = _; rw [← hdr2.out, dropR_snoc, Hsp2.out]; simp
              clear hdr2
              go_wp2
              go_ret
              exact ⟨t2, rfl, by rw [← HL2.out]; exact HM3.out, by omega, HB4.out⟩
            · have Hsp2 := Lib.hid hsp2
              clear hsp2
              go_wp2_with fail
              go_at_call 27
              refine (space_any x2 (sc_lt Hx2.out) w4).mono ?_
              rintro e' w' ⟨he, rfl⟩
              rw [Hsp2.out] at he
              subst he
              have HL2 : Hid (dropR m3 = trm l) := by show _ = _; rw [← hdr2.out, dropR_snoc, Hsp2.out]; simp
              have HM4 : Hid (Is (t2.extract 0 (t2.size - n2)) m3) := HD6.out _ (by rw [Lib.extract_data]; simp)
              have hts3 : (t2.extract 0 (t2.size - n2)).size = t2.size - n2 := by simp
              have HTS2 := Lib.hid hts3
              clear hdr2 hts3
              have q1 : (n2 : Int) ≤ (t2.size : Int) := by omega
              go_wp2
              go_roundw
              case rel => exact ⟨t2.extract 0 (t2.size - n2), m3, by first | rfl | trivial, HM4.out, HL2.out, by have := HTS2.out; omega, HB4.out⟩
              case measure => simp only [lenOf]; have := HTS2.out; omega
          · have HL2 : Hid (Is t2 (trm l)) := by
              have : m2 = [] := HM3.out.nil_of (by omega)
              show Is _ _
              rw [← hdr2.out, this]
              have := HM3.out
              simp_all [dropR]
            clear hdr2
            go_wp2
            go_ret
            exact ⟨t2, rfl, HL2.out, by omega, HB3.out⟩
      · have Hsp := Lib.hid hsp
        clear hsp
        go_wp2_with fail
        go_at_call 27
        refine (space_any x (sc_lt Hx.out) w1).mono ?_
        rintro e' w' ⟨he, rfl⟩
        rw [Hsp.out] at he
        subst he
        have HL : Hid (dropL m' = dropL l) := by show _ = _; rw [← hdr.out, dropL_cons, Hsp.out]; simp
        have HM2 : Hid (Is (t.extract n t.size) m') := HD3.out _ (by rw [Lib.extract_to_end])
        have hts2 : (t.extract n t.size).size = t.size - n := by simp
        have HTS := Lib.hid hts2
        clear hdr hts2
        go_wp2
        go_roundw
        case rel => exact ⟨t.extract n t.size, m', rfl, HM2.out, HL.out, by have := HTS.out; omega, HB1.out⟩
        case measure => simp only [lenOf]; have := HTS.out; omega
    · have HM2 : Hid (Is t (dropL l)) := by
        have : m = [] := HM.out.nil_of (by omega)
        show Is _ _
        rw [← hdr.out, this]
        have := HM.out
        simp_all [dropL]
      have HB1 := HB
      clear hdr
      go_wp2
      go_loopw [0] (fun v wr => ∃ (t : ByteArray) (m : List Nat), v = .string t ∧ Is t m ∧ Hid (dropR m = trm l) ∧ t.size ≤ s.size ∧ Below w.heap.size w wr) (fun v _ => lenOf v)
      case atStart => exact ⟨t, dropL l, rfl, HM2.out, rfl, by omega, HB1.out⟩
      case round =>
        obtain ⟨t2, m2, rfl, hm2, hdr2, hts2, hbw2⟩ := hrel
        obtain ⟨wi, rfl⟩ : ∃ wi : World, wi = wr := ⟨_, rfl⟩
        have HM3 := Lib.hid hm2
        have HB3 := Lib.hid hbw2
        have hsz2 := hbw2.size
        clear hm2 hbw2
        by_cases hlt2 : 0 < t2.size
        · obtain ⟨x2, m3, rfl⟩ : ∃ x2 m3, m2 = m3 ++ [x2] := by
            rcases List.eq_nil_or_concat m2 with rfl | ⟨m3, x2, rfl⟩
            · have : t2.size = 0 := HM3.out.size; omega
            · exact ⟨x2, m3, by simp⟩
          obtain ⟨hd4, hd5, hd6⟩ := HM3.out.last
          have Hx2 : Hid (Sc x2) := HM3.out.2 x2 (by simp)
          have hp2 := enc_pos x2
          obtain ⟨n2, hn2⟩ : ∃ n2 : Nat, n2 = (enc x2).length := ⟨_, rfl⟩
          have hdc2 := dec_last HM3.out (by omega) wi (HT.out.below HB3.out)
          rw [← hn2] at hd5 hd6 hp2 hdc2
          have HDC2 := Lib.hid hdc2
          have HD6 := Lib.hid hd6
          clear hn2 hd4 hd6 hdc2
          go_wp2_with fail
          go_at_call 28
          refine HDC2.out.mono ?_
          rintro e' w4 ⟨rfl, hb4⟩
          have HB4 := Lib.hid (HB3.out.trans (hb4.mono hsz2))
          clear hb4
          cases hsp2 : sp x2
          · have Hsp2 := Lib.hid hsp2
            clear hsp2
            go_wp2_with fail
            go_at_call 27
            refine (space_any x2 (sc_lt Hx2.out) w4).mono ?_
            rintro e' w' ⟨he, rfl⟩
            rw [Hsp2.out] at he
            subst he
            have HL2 : Hid (m3 ++ [x2] = trm l) := by show _ = _; rw [← hdr2.out, dropR_snoc, Hsp2.out]; simp
            clear hdr2
            go_wp2
            go_ret
            exact ⟨t2, rfl, by rw [← HL2.out]; exact HM3.out, by omega, HB4.out⟩
          · have Hsp2 := Lib.hid hsp2
            clear hsp2
            go_wp2_with fail
            go_at_call 27
            refine (space_any x2 (sc_lt Hx2.out) w4).mono ?_
            rintro e' w' ⟨he, rfl⟩
            rw [Hsp2.out] at he
            subst he
            have HL2 : Hid (dropR m3 = trm l) := by show _ = _; rw [← hdr2.out, dropR_snoc, Hsp2.out]; simp
            have HM4 : Hid (Is (t2.extract 0 (t2.size - n2)) m3) := HD6.out _ (by rw [Lib.extract_data]; simp)
            have hts3 : (t2.extract 0 (t2.size - n2)).size = t2.size - n2 := by simp
            have HTS2 := Lib.hid hts3
            clear hdr2 hts3
            have q1 : (n2 : Int) ≤ (t2.size : Int) := by omega
            go_wp2
            go_roundw
            case rel => exact ⟨t2.extract 0 (t2.size - n2), m3, by first | rfl | trivial, HM4.out, HL2.out, by have := HTS2.out; omega, HB4.out⟩
            case measure => simp only [lenOf]; have := HTS2.out; omega
        · have HL2 : Hid (Is t2 (trm l)) := by
            have : m2 = [] := HM3.out.nil_of (by omega)
            show Is _ _
            rw [← hdr2.out, this]
            have := HM3.out
            simp_all [dropR]
          clear hdr2
          go_wp2
          go_ret
          exact ⟨t2, rfl, HL2.out, by omega, HB3.out⟩
end Go.Proofs.YtohhcmcelofgeaaDoor
