/-
  FnStepsParted says yes. Conditions: the library's two tables lie there.
-/
import Derived.Test.YthmijakellfbiaaDoorVisH
import Derived.Test.YthmijakellfbiaaDoorVisN
import Derived.Test.YthmijakellfbiaaDoorVisP
import Derived.Deep.AppendLies
import Derived.Deep.RegionHeld3
import Derived.Deep.QuietTactic
import Derived.BigQuiet
namespace Go.Proofs.YthmijakellfbiaaDoor
open Go.RowKit
set_option linter.unusedVariables false
set_option linter.unusedSimpArgs false

theorem Reads.pre {w : World} {B n N : Nat} {A : Option Addr} {xs : List Value} (h : Reads w B 1 A N xs) (hn : n ≤ N) : Reads w B 1 A n (xs.take n) := by
  refine ⟨by rw [List.length_take, h.1]; omega, fun h0 => ?_⟩
  obtain ⟨ad, e, hb, hc⟩ := h.2 (by omega)
  refine ⟨ad, e, hb, fun j u hu => hc j u ?_⟩
  rw [List.getElem?_take] at hu
  split at hu
  · exact hu
  · cases hu
theorem names_take {w : World} {A : Option Addr} {c n : Nat} {ns : List ByteArray} (h : Lines w (.slice A ns.length c) ns) (hn : n ≤ ns.length) : Lines w (.slice A n n) (ns.take n) := by
  obtain ⟨A', c', e, hc, hr⟩ := h
  injection e with e1 e2 e3
  subst e1 e3
  have hl : (ns.take n).length = n := by rw [List.length_take]; omega
  refine ⟨A, n, by rw [hl], by omega, ?_⟩
  have := hr.pre hn
  rw [hl]
  have e : strs (ns.take n) = (strs ns).take n := by simp [strs, List.map_take]
  rw [e]
  exact this
theorem ints_take {w : World} {A : Option Addr} {c n : Nat} {hs : List Int} (h : Ints w (.slice A hs.length c) hs) (hn : n ≤ hs.length) : Ints w (.slice A n n) (hs.take n) := by
  obtain ⟨A', c', e, hc, hr⟩ := h
  injection e with e1 e2 e3
  subst e1 e3
  have hl : (hs.take n).length = n := by rw [List.length_take]; omega
  refine ⟨A, n, by rw [hl], by omega, ?_⟩
  have := hr.pre hn
  rw [hl]
  have e : ints (hs.take n) = (ints hs).take n := by simp [ints, List.map_take]
  rw [e]
  exact this
theorem names_drop {w : World} {A : Option Addr} {c n : Nat} {ns : List ByteArray} (h : Lines w (.slice A ns.length c) ns) (hn : n ≤ ns.length) : Lines w (.slice (if c = n then A else A.map (·.add n)) (ns.length - n) (c - n)) (ns.drop n) := by
  obtain ⟨A', c', e, hc, hr⟩ := h
  injection e with e1 e2 e3
  subst e1 e3
  have hl : (ns.drop n).length = ns.length - n := by rw [List.length_drop]
  have := hr.cut (k := n) hn hc
  rw [Nat.mul_one] at this
  refine ⟨_, _, by rw [hl], by omega, ?_⟩
  rw [hl]
  have e : strs (ns.drop n) = (strs ns).drop n := by simp [strs, List.map_drop]
  rw [e]
  exact this
theorem ints_drop {w : World} {A : Option Addr} {c n : Nat} {hs : List Int} (h : Ints w (.slice A hs.length c) hs) (hn : n ≤ hs.length) : Ints w (.slice (if c = n then A else A.map (·.add n)) (hs.length - n) (c - n)) (hs.drop n) := by
  obtain ⟨A', c', e, hc, hr⟩ := h
  injection e with e1 e2 e3
  subst e1 e3
  have hl : (hs.drop n).length = hs.length - n := by rw [List.length_drop]
  have := hr.cut (k := n) hn hc
  rw [Nat.mul_one] at this
  refine ⟨_, _, by rw [hl], by omega, ?_⟩
  rw [hl]
  have e : ints (hs.drop n) = (ints hs).drop n := by simp [ints, List.map_drop]
  rw [e]
  exact this
theorem below_drewN' {B : Nat} {a w : World} (h : Below B a w) (n : Nat) : Below B a (w.drewN n) := ⟨h.os, h.tape, h.output, h.size, h.block⟩
def YesP (w : World) (e : Ending) (w' : World) : Prop := e = .returned (.bool true) ∧ Below w.heap.size w w'
/-- What has been parted. -/
def PRel (w wr : World) (base : Nat) (E : List St) (a n k : Nat) (out : Value) : Prop := ∃ R, wr.ownsRow base 26 4 out (pieces a n 0 (E.take k)).length R.flatten ∧ Kids cellsS w R (pieces a n 0 (E.take k))
theorem take_s {E : List St} {k : Nat} {e : St} (he : E[k]? = some e) : E.take (k + 1) = E.take k ++ [e] := by
  obtain ⟨h, rfl⟩ := List.getElem?_eq_some_iff.1 he
  exact List.take_succ_eq_append_getElem h
theorem PRel.two {w w' : World} {base : Nat} {E : List St} {a n k : Nat} {out : Value} {R : List (List Value)} {e : St} {u1 v1 u2 v2 : Value} (hk : Kids cellsS w R (pieces a n 0 (E.take k)))
    (ho : w'.ownsRow base 26 4 out ((pieces a n 0 (E.take k)).length + 2) (R.flatten ++ [.bool false, .string ⟨#[]⟩, u1, v1, .bool false, .string ⟨#[]⟩, u2, v2])) (he : E[k]? = some e) (hka : k = a) (hi : e.is_ = false)
    (l1 : Lines w u1 (e.names.take n)) (i1 : Ints w v1 (e.hides.take n)) (l2 : Lines w u2 (e.names.drop n)) (i2 : Ints w v2 (e.hides.drop n)) : PRel w w' base E a n (k + 1) out := by
  have hl := (List.getElem?_eq_some_iff.1 he).1
  have e1 : pieces a n 0 (E.take (k + 1)) = pieces a n 0 (E.take k) ++ [lf n e] ++ [rt n e] := by
    rw [take_s he, pieces_snoc, List.append_assoc]
    congr 1
    unfold piece
    rw [if_pos ⟨by rw [List.length_take]; omega, hi⟩]
    rfl
  refine ⟨R ++ [cellsS (lf n e) u1 v1] ++ [cellsS (rt n e) u2 v2], ?_, ?_⟩
  · rw [e1, flat4_snoc, flat4_snoc, List.append_assoc R.flatten]
    have : (pieces a n 0 (E.take k) ++ [lf n e] ++ [rt n e]).length = (pieces a n 0 (E.take k)).length + 2 := by simp
    rw [this]
    exact ho
  · rw [e1]
    exact (hk.snoc (e := lf n e) l1 i1).snoc (e := rt n e) l2 i2
theorem PRel.one {w w' : World} {base : Nat} {E : List St} {a n k : Nat} {out : Value} {R : List (List Value)} {e : St} {u v : Value} (hk : Kids cellsS w R (pieces a n 0 (E.take k)))
    (ho : w'.ownsRow base 26 4 out ((pieces a n 0 (E.take k)).length + 1) (R.flatten ++ cellsS e u v)) (he : E[k]? = some e) (hp : ¬ (k = a ∧ e.is_ = false))
    (l1 : Lines w u e.names) (i1 : Ints w v e.hides) : PRel w w' base E a n (k + 1) out := by
  have hl := (List.getElem?_eq_some_iff.1 he).1
  have e1 : pieces a n 0 (E.take (k + 1)) = pieces a n 0 (E.take k) ++ [e] := by
    rw [take_s he, pieces_snoc]
    congr 1
    unfold piece
    rw [if_neg (by rw [List.length_take]; intro h; exact hp ⟨by have := h.1; omega, h.2⟩)]
  refine ⟨R ++ [cellsS e u v], ?_, ?_⟩
  · rw [e1, flat4_snoc]
    have : (pieces a n 0 (E.take k) ++ [e]).length = (pieces a n 0 (E.take k)).length + 1 := by simp
    rw [this]
    exact ho
  · rw [e1]
    exact hk.snoc (e := e) l1 i1

set_option maxRecDepth 100000 in
set_option maxHeartbeats 4000000 in
theorem walk_parted (A : Option Addr) (c : Nat) (E : List St) (pn cn : Nat) (w : World) (h : Sts cellsS w A E) (hZ : Sizes E) (hp : pn ≤ 255) (hc : cn ≤ 255) (hT : Tabs w) :
    Calls Tryd.prog 4 #[.slice A E.length c, .int .u8 pn, .int .u8 cn] w (YesP w) := by
  obtain ⟨i26, hi26, hz26, hz26', hz26''⟩ := info_parts info_S
  have HR := Lib.hid h
  have HZ := Lib.hid hZ
  have HT := Lib.hid hT
  clear h hZ hT
  by_cases hm : E.length ≤ 2147483647
  case neg =>
    go_enter Tryd.func4, Tryd.ntmps4
    go_wp2_with (go_at_call 5; refine (fits11_no A c E.length _ (by omega)).mono ?_; rintro e w' ⟨rfl, rfl⟩)
    go_ret
    exact ⟨rfl, Below.refl _ _⟩
  case pos =>
    go_enter Tryd.func4, Tryd.ntmps4
    go_wp2_with fail
    go_at_call 5
    refine (fits11 A c E _ HR.out).mono ?_
    rintro e w1 ⟨⟨b1, rfl⟩, hb1⟩
    have HB1 := Lib.hid hb1
    have hs1 := hb1.size
    clear hb1
    cases b1
    · go_wp2
      go_ret
      exact ⟨rfl, HB1.out⟩
    go_wp2_with fail
    go_at_call 8
    refine (few2_any A c E w1 (HR.out.below HB1.out) (by omega) HZ.out (HT.out.below HB1.out)).mono ?_
    rintro e w2 ⟨b2, rfl, hf2, hb2⟩
    have HF2 := Lib.hid hf2
    have HB2 := Lib.hid (HB1.out.trans (hb2.mono hs1))
    have hs2 := HB2.out.size
    clear hf2 hb2
    cases b2
    · go_wp2
      go_ret
      exact ⟨rfl, HB2.out⟩
    have HF := Lib.hid (HF2.out rfl)
    clear HF2
    by_cases h0 : E.length = 0
    · have hz : ((E.length : Int) == 0) = true := by simpa using h0
      clear h0
      go_wp2
      go_ret
      exact ⟨rfl, HB2.out⟩
    have hz : ((E.length : Int) == 0) = false := by simpa using h0
    by_cases h11 : E.length ≤ 11
    case neg =>
      have hd : decide ((11 : Int) < (E.length : Int)) = true := decide_eq_true (by omega)
      clear h0
      go_wp2
      go_ret
      exact ⟨rfl, HB2.out⟩
    have hd : decide ((11 : Int) < (E.length : Int)) = false := decide_eq_false (by omega)
    obtain ⟨a, ha⟩ : ∃ a, a = pn % E.length := ⟨_, rfl⟩
    have hal : a < E.length := by rw [ha]; exact Nat.mod_lt _ (by omega)
    have hai : (pn : Int) % (E.length : Int) = (a : Int) := by rw [ha]; exact (Int.natCast_emod _ _).symm
    have hE1 : (1 : Int) ≤ (E.length : Int) := by omega
    have hp0 : (0 : Int) ≤ (pn : Int) := by omega
    have hp255 : (pn : Int) ≤ 255 := by omega
    have hc0 : (0 : Int) ≤ (cn : Int) := by omega
    have hc255 : (cn : Int) ≤ 255 := by omega
    obtain ⟨x, hx⟩ : ∃ x, E[a]? = some x := ⟨_, List.getElem?_eq_getElem hal⟩
    obtain ⟨ad, u, v, rfl, hb, hu, hv, hcx⟩ := HR.out a x hx
    obtain ⟨g0, g1, g2, g3⟩ := four_of hcx
    have e0 := cell_below g0 HB2.out
    have e1 := cell_below g1 HB2.out
    have e2 := cell_below g2 HB2.out
    have e3 := cell_below g3 HB2.out
    have HX := Lib.hid hx
    have hx12 := (HF.out.1.2 a x hx).2.1
    have HXL := Lib.hid (HF.out.1.2 a x hx).1
    have HU := Lib.hid hu
    have HV := Lib.hid hv
    obtain ⟨A', c', rfl, hcl, -⟩ := hu
    obtain ⟨A2, c2, rfl, hcl2, -⟩ := hv
    obtain ⟨n, hn⟩ : ∃ n, n = cn % (x.names.length + 1) := ⟨_, rfl⟩
    have hnl : n ≤ x.names.length := by have := Nat.mod_lt cn (show 0 < x.names.length + 1 by omega); omega
    have hni : (cn : Int) % ((x.names.length : Int) + 1) = (n : Int) := by rw [hn]; exact (Int.natCast_emod _ _).symm
    clear ha hn hx hcx g0 g1 g2 g3 h0 hb
    go_wp2_with fail
    try rw [hai]
    try rw [hni]
    obtain ⟨w3, hw3⟩ : ∃ w3, w3 = w2.alloc (.cells #[.bool x.is_, .string x.rem, .slice A' x.names.length c', .slice A2 x.hides.length c2] 26) := ⟨_, rfl⟩
    have hbx : Blk w3 w2.heap.size 26 #[.bool x.is_, .string x.rem, .slice A' x.names.length c', .slice A2 x.hides.length c2] := by rw [hw3]; exact Blk.new_at rfl
    have HBX := Lib.hid hbx
    have hb3 : Below w.heap.size w w3 := by rw [hw3]; exact HB2.out.alloc (by omega) _
    have HB3 := Lib.hid hb3
    have hs3 : w3.heap.size = w2.heap.size + 1 := by rw [hw3]; simp
    rw [← hw3]
    clear hb3 hbx hw3 e0 e1 e2 e3
    have HAI := Lib.hid hai
    have HNI := Lib.hid hni
    have Hnl := Lib.hid hnl
    clear hai hni
    go_loopw [10, 11] (fun out i wr => ∃ k : Nat, k ≤ E.length ∧ i = .int .i64 k ∧ PRel w wr w3.heap.size E a n k out ∧ Below w3.heap.size w3 wr) (fun _ i _ => E.length - (intOf i).toNat)
    case atStart => exact ⟨0, by omega, rfl, ⟨[], World.ownsRow_nil _ _ _ _, Kids.nil _ _⟩, Below.refl _ _⟩
    case round =>
      obtain ⟨k, hk, rfl, ⟨R, ho, hkids⟩, hbw⟩ := hrel
      have HO := Lib.hid ho
      have HK := Lib.hid hkids
      have hlen := (pieces_len a n (E.take k) 0).2
      have htl : (E.take k).length = k := by rw [List.length_take]; omega
      have hpl : (pieces a n 0 (E.take k)).length ≤ 12 := by omega
      have Holt := Lib.hid ho.lt
      have HBW := Lib.hid (HB3.out.trans (hbw.mono (by omega)))
      have hsw := hbw.size
      have hbx := (HBX.out.later (by first | exact hbw | (rw [← hs3]; exact hbw)))
      have HBXW := Lib.hid hbx
      have x0 : wr.cell? ⟨w2.heap.size, 0, none⟩ = some (.bool x.is_) := hbx.cell 0
      have x1 : wr.cell? ⟨w2.heap.size, 1, none⟩ = some (.string x.rem) := hbx.cell 1
      have x2 : wr.cell? ⟨w2.heap.size, 2, none⟩ = some (.slice A' x.names.length c') := hbx.cell 2
      have x3 : wr.cell? ⟨w2.heap.size, 3, none⟩ = some (.slice A2 x.hides.length c2) := hbx.cell 3
      clear ho hkids hlen hbx htl
      by_cases hlt : k < E.length
      · obtain ⟨e, he⟩ : ∃ e, E[k]? = some e := ⟨_, List.getElem?_eq_getElem hlt⟩
        have HEk := Lib.hid he
        by_cases hp : k = a ∧ x.is_ = false
        · obtain ⟨hka, hxi⟩ := hp
          have hbe : ((k : Int) == (a : Int)) = true := by rw [hka]; simp
          have HKA := Lib.hid hka
          have HXI := Lib.hid hxi
          rw [hxi] at x0
          have n0 : (0 : Int) ≤ (n : Int) := by omega
          have n1 : (n : Int) ≤ (x.names.length : Int) := by omega
          have n2 : (n : Int) ≤ (x.hides.length : Int) := by have := HXL.out; omega
          have n3 : (n : Int) ≤ (c' : Int) := by omega
          have n4 : (n : Int) ≤ (c2 : Int) := by omega
          clear hka hxi he x1
          go_wp2_with fail
          go_region_held3 (fun w' => w'.cell? ⟨w2.heap.size, 2, none⟩ = some (.slice A' x.names.length c') ∧ w'.cell? ⟨w2.heap.size, 3, none⟩ = some (.slice A2 x.hides.length c2))
            (first
              | go_keep
              | (go_split_ands
                 have kk := fun i => hg4.cell_far ⟨w2.heap.size, i, none⟩ (by simp; omega) (fun e => by have := (Holt.out _ e.symm).1; simp at this; omega)
                 refine ⟨?_, ?_⟩ <;> (rw [kk]; first | assumption | go_keep)))
            (first
              | ((refine step_append_lies _ (by rfl) (.tmp 63) (.tmp 84) _ (by rfl) w3.heap.size 26 i26 _ 4 72 Tryd.underlying22 hi26 hz26 hz26' hz26'' rfl (by omega) u10 (pieces a n 0 (E.take k)).length R.flatten (by rfl)
                   (HO.out.alloc _) ⟨wr.heap.size, 0, none⟩ 2 2 [_, _, _, _, _, _, _, _] (by rfl) (by rfl)
                   (news_at _ _ _ _ (by simp)) (by simp [Value.oneCell'])
                   (by omega) (by simp only [maxLen]; omega) (by omega) (by simp; omega) (wr.heap.size + 1) (by simp) ?_; intro g2 cap2 w4 hown4 hg4 hat4 hlt4)))
          go_wp2
          have HN : Hid (PRel w w4 w3.heap.size E a n (k + 1) (.slice (some ⟨g2, 0, none⟩) ((pieces a n 0 (E.take k)).length + 2) cap2)) := PRel.two HK.out hown4 (e := x) (by rw [HKA.out]; exact HX.out) HKA.out HXI.out (names_take HU.out Hnl.out) (ints_take HV.out (by omega)) (names_drop HU.out Hnl.out) (ints_drop HV.out (by omega))
          have HB : Hid (Below w3.heap.size w3 w4) := ((hbw.alloc (by omega) _).drew).grown hg4 (by simp; omega) (fun a ha => (Holt.out a ha).1)
          clear hown4 hg4 hat4 hlt4
          go_roundw
          case rel => exact ⟨k + 1, by omega, by go_num, HN.out, HB.out⟩
          case measure => simp [intOf]; omega
        · have HP := Lib.hid hp
          obtain ⟨ad', u, v, hA, hb, hu, hv, hc⟩ := HR.out k e he
          injection hA with hA
          subst hA
          obtain ⟨g0, g1, g2, g3⟩ := four_of hc
          have e0 := cell_below g0 HBW.out
          have e1 := cell_below g1 HBW.out
          have e2 := cell_below g2 HBW.out
          have e3 := cell_below g3 HBW.out
          have HUE := Lib.hid hu
          have HP2 : Hid (¬ (k = a ∧ e.is_ = false)) := fun h => hp ⟨h.1, by have h2 := HEk.out; rw [h.1, HX.out] at h2; injection h2 with h2; rw [h2]; exact h.2⟩
          have HVE := Lib.hid hv
          obtain ⟨A7, c7, rfl, -, -⟩ := hu
          obtain ⟨A8, c8, rfl, -, -⟩ := hv
          have k0 : (0 : Int) ≤ (k : Int) := by omega
          have k1 : (k : Int) < (E.length : Int) := by omega
          clear he hc g0 g1 g2 g3 hb x1 x2 x3
          by_cases hka : k = a
          · have hxi : x.is_ = true := by
              cases hi : x.is_ with
              | true => rfl
              | false => exact absurd ⟨hka, hi⟩ hp
            have hbe : ((k : Int) == (a : Int)) = true := by rw [hka]; simp
            rw [hxi] at x0
            have HKA := Lib.hid hka
            clear hka hxi hp
            go_wp2_with (at_builtin; refine wpList_append_lies _ rfl (.tmp 86) (.tmp 91) _ rfl w3.heap.size 26 i26 _ 4 72 Tryd.underlying22 hi26 hz26 hz26' hz26'' rfl (by omega) u10 (pieces a n 0 (E.take k)).length R.flatten rfl (HO.out.alloc _) ⟨wr.heap.size, 0, none⟩ 1 1 [.bool e.is_, .string e.rem, .slice A7 e.names.length c7, .slice A8 e.hides.length c8] rfl rfl (news_at _ _ _ _ (by simp)) (by simp [Value.oneCell']) (by omega) (by simp only [maxLen]; omega) (by omega) (by simp; omega) (wr.heap.size + 1) (by simp) ?_; intro g2 cap2 w4 hown4 hg4 hat4 hlt4)
            have HN : Hid (PRel w w4 w3.heap.size E a n (k + 1) (.slice (some ⟨g2, 0, none⟩) ((pieces a n 0 (E.take k)).length + 1) cap2)) := PRel.one HK.out hown4 HEk.out HP2.out HUE.out HVE.out
            have HB : Hid (Below w3.heap.size w3 w4) := (hbw.alloc (by omega) _).grown hg4 (by simp; omega) (fun a ha => (Holt.out a ha).1)
            clear hown4 hg4 hat4 hlt4
            go_wp2
            go_roundw
            case rel => exact ⟨k + 1, by omega, by go_num, HN.out, HB.out⟩
            case measure => simp [intOf]; omega
          · have hbe : ((k : Int) == (a : Int)) = false := by simp; omega
            have HKA := Lib.hid hka
            clear hka hp
            go_wp2_with (at_builtin; refine wpList_append_lies _ rfl (.tmp 86) (.tmp 91) _ rfl w3.heap.size 26 i26 _ 4 72 Tryd.underlying22 hi26 hz26 hz26' hz26'' rfl (by omega) u10 (pieces a n 0 (E.take k)).length R.flatten rfl (HO.out.alloc _) ⟨wr.heap.size, 0, none⟩ 1 1 [.bool e.is_, .string e.rem, .slice A7 e.names.length c7, .slice A8 e.hides.length c8] rfl rfl (news_at _ _ _ _ (by simp)) (by simp [Value.oneCell']) (by omega) (by simp only [maxLen]; omega) (by omega) (by simp; omega) (wr.heap.size + 1) (by simp) ?_; intro g2 cap2 w4 hown4 hg4 hat4 hlt4)
            have HN : Hid (PRel w w4 w3.heap.size E a n (k + 1) (.slice (some ⟨g2, 0, none⟩) ((pieces a n 0 (E.take k)).length + 1) cap2)) := PRel.one HK.out hown4 HEk.out HP2.out HUE.out HVE.out
            have HB : Hid (Below w3.heap.size w3 w4) := (hbw.alloc (by omega) _).grown hg4 (by simp; omega) (fun a ha => (Holt.out a ha).1)
            clear hown4 hg4 hat4 hlt4
            go_wp2
            go_roundw
            case rel => exact ⟨k + 1, by omega, by go_num, HN.out, HB.out⟩
            case measure => simp [intOf]; omega
      · obtain rfl : k = E.length := by omega
        have hko := HO.out
        have hkk := HK.out
        rw [List.take_length] at hko hkk hpl
        have HPN : Hid (∀ e ∈ E, e.hides.length = e.names.length ∧ e.names.Nodup) := fun e he => by
          obtain ⟨j, hj, e1⟩ := List.mem_iff_getElem.1 he
          have hje : E[j]? = some e := by rw [← e1]; exact List.getElem?_eq_getElem hj
          exact ⟨(HF.out.1.2 j e hje).1, HF.out.2 j e hje⟩
        have HFP := Lib.hid (few_pieces a n HF.out.1 h11)
        have HVP := Lib.hid (vis_pieces a n HPN.out)
        obtain ⟨L, hL⟩ : ∃ L, L = pieces a n 0 E := ⟨_, rfl⟩
        rw [← hL] at hko hkk hpl HFP HVP
        clear hL
        obtain ⟨A5, c5, rfl, hc5, hst⟩ := Kids.sts cellsS_four hko (hkk.below HBW.out)
        have HST := Lib.hid hst
        clear hko hkk hst x0 x1 x2 x3
        go_wp2_with fail
        go_at_call 12
        refine (ifields_any (some ad) c E wr (HR.out.below HBW.out) HF.out.1).mono ?_
        rintro e w5 ⟨p5, C5, rfl, hn5, hm5, hl5, hL5, hB5⟩
        have N5 := Lib.hid hn5
        have M5 := Lib.hid hm5
        have S5 := Lib.hid hL5
        have B5 := Lib.hid hB5
        have BW5 := Lib.hid (HBW.out.trans (hB5.mono HBW.out.size))
        have T5 := Lib.hid BW5.out.size
        clear hn5 hm5 hL5 hB5
        go_wp2_with fail
        go_at_call 12
        refine (ifields_any A5 c5 L w5 (HST.out.below B5.out) HFP.out).mono ?_
        rintro e w6 ⟨p6, C6, rfl, hn6, hm6, hl6, hL6, hB6⟩
        have S56 := Lib.hid (S5.out.below hB6)
        have BW6 := Lib.hid (BW5.out.trans (hB6.mono T5.out))
        have hsame : srt C6 = srt C5 := srt_same hn6 N5.out fun s => by
          rw [hm6 s, M5.out s, HVP.out]
        rw [hsame] at hL6
        have S6 := Lib.hid hL6
        have hl : (srt C5).length ≤ 1000 := by rw [srt_len]; omega
        clear hn6 hm6 hL6 hB6 hsame
        obtain ⟨D, hD⟩ : ∃ D, D = srt C5 := ⟨_, rfl⟩
        rw [← hD] at hl
        rw [← hD] at S56 S6
        clear hD
        have q1 := S56.out
        have q2 := S6.out
        obtain ⟨A9, c9, rfl, -, hr⟩ := q1
        obtain ⟨A0, c0, rfl, -, hq⟩ := q2
        have RR := Lib.hid hr
        have QQ := Lib.hid hq
        clear hr hq
        have hne1 : ((D.length : Int) != (D.length : Int)) = false := by simp
        go_wp2
        go_loopw [16] (fun i wr' => ∃ j m : Nat, j ≤ D.length ∧ i = .int .i64 j ∧ wr' = w6.drewN m) (fun i _ => D.length - (intOf i).toNat)
        case atStart => exact ⟨0, 0, by omega, rfl, rfl⟩
        case round =>
          obtain ⟨j, m, hj, rfl, rfl⟩ := hrel
          by_cases hlj : j < D.length
          · obtain ⟨ad8, s, rfl, -, hs, hcs⟩ := RR.out.line hlj
            obtain ⟨ad9, s2, rfl, -, hs2, hcs2⟩ := QQ.out.line hlj
            rw [hs] at hs2
            injection hs2 with hs2
            subst hs2
            have z0 : (0 : Int) ≤ (j : Int) := by omega
            have z1 : (j : Int) < (D.length : Int) := by omega
            have hne : (s.toList != s.toList) = false := by simp
            clear hs
            go_wp2
            go_quiet (fail)
            go_wp2
            go_roundw
            case rel => exact ⟨j + 1, _, by omega, by go_num, by first | rfl | (simp only [World.drewN_drewN]; rfl)⟩
            case measure => simp [intOf]; omega
          · go_wp2
            go_ret
            exact ⟨rfl, below_drewN' BW6.out m⟩
end Go.Proofs.YthmijakellfbiaaDoor
