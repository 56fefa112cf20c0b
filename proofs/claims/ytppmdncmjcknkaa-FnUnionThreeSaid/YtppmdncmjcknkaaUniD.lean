/-
  FnUnionThree says yes. Conditions: none.
-/
import Derived.Test.YtppmdncmjcknkaaUniC
import Derived.Deep.QuietTactic
import Derived.BigQuiet
namespace Go.Proofs.Ytppmdncmjcknkaa
open Go.RowKit
set_option linter.unusedVariables false
set_option linter.unusedSimpArgs false

theorem Lines.drewN {w : World} {v : Value} {L : List ByteArray} (h : Lines w v L) (n : Nat) : Lines (w.drewN n) v L := h
theorem Nums.drewN {w : World} {v : Value} {L : List Int} (h : Nums w v L) (n : Nat) : Nums (w.drewN n) v L := h
theorem below_drewN' {B : Nat} {a w : World} (h : Below B a w) (n : Nat) : Below B a (w.drewN n) := ⟨h.os, h.tape, h.output, h.size, h.block⟩
def QuietTrue (w : World) (e : Ending) (w' : World) : Prop := e = .returned (.bool true) ∧ ∃ n, w' = w.drewN n
set_option maxRecDepth 100000 in
theorem names_same (v u : Value) (L : List ByteArray) (w : World) (hv : Lines w v L) (hu : Lines w u L) (hl : L.length ≤ 1000) : Calls Try.prog 10 #[v, u] w (QuietTrue w) := by
  obtain ⟨A, c, rfl, -, hr⟩ := hv
  obtain ⟨B, d, rfl, -, hq⟩ := hu
  have HR := Lib.hid hr
  have HQ := Lib.hid hq
  clear hr hq
  go_enter Try.func10, Try.ntmps10
  go_wp2
  go_loopw [5] (fun i wr => ∃ k n : Nat, k ≤ L.length ∧ i = .int .i64 k ∧ wr = w.drewN n) (fun i _ => L.length - (intOf i).toNat)
  case atStart => exact ⟨0, 0, by omega, rfl, rfl⟩
  case round =>
    obtain ⟨k, n, hk, rfl, rfl⟩ := hrel
    by_cases hlt : k < L.length
    · obtain ⟨ad, s, rfl, -, hs, hc⟩ := HR.out.line hlt
      obtain ⟨ad2, s2, rfl, -, hs2, hc2⟩ := HQ.out.line hlt
      rw [hs] at hs2
      injection hs2 with hs2
      subst hs2
      have z0 : (0 : Int) ≤ (k : Int) := by omega
      have z1 : (k : Int) < (L.length : Int) := by omega
      have hne : (s.toList != s.toList) = false := by simp
      clear hs
      go_wp2
      go_quiet (fail)
      go_wp2
      go_roundw
      case rel => exact ⟨k + 1, _, by omega, by go_num, by first | rfl | (simp only [World.drewN_drewN]; rfl)⟩
      case measure => simp [intOf]; omega
    · go_wp2
      go_ret
      exact ⟨rfl, n, rfl⟩
set_option maxRecDepth 100000 in
theorem nums_same (v u : Value) (L : List Int) (w : World) (hv : Nums w v L) (hu : Nums w u L) (hl : L.length ≤ 1000) : Calls Try.prog 11 #[v, u] w (QuietTrue w) := by
  obtain ⟨A, c, rfl, -, hr⟩ := hv
  obtain ⟨B, d, rfl, -, hq⟩ := hu
  have HR := Lib.hid hr
  have HQ := Lib.hid hq
  clear hr hq
  go_enter Try.func11, Try.ntmps11
  go_wp2
  go_loopw [5] (fun i wr => ∃ k n : Nat, k ≤ L.length ∧ i = .int .i64 k ∧ wr = w.drewN n) (fun i _ => L.length - (intOf i).toNat)
  case atStart => exact ⟨0, 0, by omega, rfl, rfl⟩
  case round =>
    obtain ⟨k, n, hk, rfl, rfl⟩ := hrel
    by_cases hlt : k < L.length
    · obtain ⟨ad, s, rfl, -, hs, hc⟩ := HR.out.at_ hlt
      obtain ⟨ad2, s2, rfl, -, hs2, hc2⟩ := HQ.out.at_ hlt
      rw [hs] at hs2
      injection hs2 with hs2
      subst hs2
      rw [nums_at (n := L[k]) (List.getElem?_eq_getElem hlt)] at hs
      injection hs with hs
      subst hs
      obtain ⟨z, hz⟩ : ∃ z, z = L[k] := ⟨_, rfl⟩
      rw [← hz] at hc hc2
      have z0 : (0 : Int) ≤ (k : Int) := by omega
      have z1 : (k : Int) < (L.length : Int) := by omega
      clear hz
      go_wp2
      go_quiet (fail)
      go_wp2
      go_roundw
      case rel => exact ⟨k + 1, _, by omega, by go_num, by first | rfl | (simp only [World.drewN_drewN]; rfl)⟩
      case measure => simp [intOf]; omega
    · go_wp2
      go_ret
      exact ⟨rfl, n, rfl⟩
def YesTo (w : World) (e : Ending) (w' : World) : Prop := e = .returned (.bool true) ∧ Below w.heap.size w w'
set_option maxRecDepth 100000 in
set_option maxHeartbeats 4000000 in
theorem walk_three (va vx vb vy vc vz : Value) (xs ys zs : List ByteArray) (x y z : List Int) (w : World) (hxs : Lines w va xs) (hx : Nums w vx x) (hys : Lines w vb ys) (hy : Nums w vy y) (hzs : Lines w vc zs) (hz : Nums w vz z) :
    Calls Try.prog 4 #[va, vx, vb, vy, vc, vz] w (YesTo w) := by
  have HXS := Lib.hid hxs
  have HX := Lib.hid hx
  have HYS := Lib.hid hys
  have HY := Lib.hid hy
  have HZS := Lib.hid hzs
  have HZ := Lib.hid hz
  obtain ⟨Aa, ca, rfl, -, ra⟩ := hxs
  obtain ⟨Ax, cx, rfl, -, -⟩ := hx
  obtain ⟨Ab, cb, rfl, -, rb⟩ := hys
  obtain ⟨Ay, cy, rfl, -, -⟩ := hy
  obtain ⟨Ac, cc, rfl, -, rc⟩ := hzs
  obtain ⟨Az, cz, rfl, -, -⟩ := hz
  have f1 := fits5 Aa ca xs w ra
  have f2 := fits5 Ab cb ys w rb
  have f3 := fits5 Ac cc zs w rc
  have F1 := Lib.hid f1
  have F2 := Lib.hid f2
  have F3 := Lib.hid f3
  clear ra rb rc f1 f2 f3
  go_enter Try.func4, Try.ntmps4
  go_wp2_with fail
  go_at_call 5
  refine F1.out.mono ?_
  rintro e w' ⟨b1, rfl, rfl⟩
  cases b1
  · go_wp2
    go_ret
    exact ⟨rfl, Below.refl _ _⟩
  by_cases hx0 : x.length ≤ 2147483647
  case neg =>
    have hd : decide ((2147483647 : Int) < (x.length : Nat)) = true := decide_eq_true (by omega)
    go_wp2
    go_ret
    exact ⟨rfl, Below.refl _ _⟩
  have hdx : decide ((2147483647 : Int) < (x.length : Nat)) = false := decide_eq_false (by omega)
  go_wp2_with fail
  go_at_call 5
  refine F2.out.mono ?_
  rintro e w' ⟨b2, rfl, rfl⟩
  cases b2
  · go_wp2
    go_ret
    exact ⟨rfl, Below.refl _ _⟩
  by_cases hy0 : y.length ≤ 2147483647
  case neg =>
    have hd : decide ((2147483647 : Int) < (y.length : Nat)) = true := decide_eq_true (by omega)
    go_wp2
    go_ret
    exact ⟨rfl, Below.refl _ _⟩
  have hdy : decide ((2147483647 : Int) < (y.length : Nat)) = false := decide_eq_false (by omega)
  go_wp2_with fail
  go_at_call 5
  refine F3.out.mono ?_
  rintro e w' ⟨b3, rfl, rfl⟩
  cases b3
  · go_wp2
    go_ret
    exact ⟨rfl, Below.refl _ _⟩
  by_cases hz0 : z.length ≤ 2147483647
  case neg =>
    have hd : decide ((2147483647 : Int) < (z.length : Nat)) = true := decide_eq_true (by omega)
    go_wp2
    go_ret
    exact ⟨rfl, Below.refl _ _⟩
  have hdz : decide ((2147483647 : Int) < (z.length : Nat)) = false := decide_eq_false (by omega)
  by_cases ha : xs.length ≤ 60
  case neg =>
    have hd : decide ((60 : Int) < (xs.length : Nat)) = true := decide_eq_true (by omega)
    go_wp2
    go_ret
    exact ⟨rfl, Below.refl _ _⟩
  have hda : decide ((60 : Int) < (xs.length : Nat)) = false := decide_eq_false (by omega)
  by_cases hb : ys.length ≤ 60
  case neg =>
    have hd : decide ((60 : Int) < (ys.length : Nat)) = true := decide_eq_true (by omega)
    go_wp2
    go_ret
    exact ⟨rfl, Below.refl _ _⟩
  have hdb : decide ((60 : Int) < (ys.length : Nat)) = false := decide_eq_false (by omega)
  by_cases hc : zs.length ≤ 60
  case neg =>
    have hd : decide ((60 : Int) < (zs.length : Nat)) = true := decide_eq_true (by omega)
    go_wp2
    go_ret
    exact ⟨rfl, Below.refl _ _⟩
  have hdc : decide ((60 : Int) < (zs.length : Nat)) = false := decide_eq_false (by omega)
  by_cases h1 : xs.length = x.length
  case neg =>
    have hd : ((xs.length : Int) != (x.length : Int)) = true := by simp; omega
    have hd2 : (xs.length != x.length) = true := by simp; omega
    clear h1
    go_wp2
    go_ret
    exact ⟨rfl, Below.refl _ _⟩
  have hd1 : ((xs.length : Int) != (x.length : Int)) = false := by simp; omega
  have hd1' : (xs.length != x.length) = false := by simp; omega
  have H1 := Lib.hid h1
  clear h1
  by_cases h2 : ys.length = y.length
  case neg =>
    have hd : ((ys.length : Int) != (y.length : Int)) = true := by simp; omega
    have hd2 : (ys.length != y.length) = true := by simp; omega
    clear h2
    go_wp2
    go_ret
    exact ⟨rfl, Below.refl _ _⟩
  have hd2 : ((ys.length : Int) != (y.length : Int)) = false := by simp; omega
  have hd2' : (ys.length != y.length) = false := by simp; omega
  have H2 := Lib.hid h2
  clear h2
  by_cases h3 : zs.length = z.length
  case neg =>
    have hd : ((zs.length : Int) != (z.length : Int)) = true := by simp; omega
    have hd2 : (zs.length != z.length) = true := by simp; omega
    clear h3
    go_wp2
    go_ret
    exact ⟨rfl, Below.refl _ _⟩
  have hd3 : ((zs.length : Int) != (z.length : Int)) = false := by simp; omega
  have hd3' : (zs.length != z.length) = false := by simp; omega
  have H3 := Lib.hid h3
  clear h3
  have HA1 := Lib.hid (show xs.length ≤ 60 ∧ ys.length ≤ 60 ∧ zs.length ≤ 60 from ⟨ha, hb, hc⟩)
  go_wp2_with fail
  go_at_call 9
  refine (union_any _ _ _ _ xs ys x y w HXS.out HX.out HYS.out HY.out H1.out H2.out (by omega) (by omega)).mono ?_
  rintro e w1 ⟨p1, q1, D1, rfl, hn1, hm1, hl1, hL1, hV1, hB1⟩
  have N1 := Lib.hid hn1
  have M1 := Lib.hid hm1
  have L1 := Lib.hid hl1
  have S1 := Lib.hid hL1
  have V1 := Lib.hid hV1
  have B1 := Lib.hid hB1
  have T1 := Lib.hid hB1.size
  clear hn1 hm1 hl1 hL1 hV1 hB1
  go_wp2_with fail
  go_at_call 9
  refine (union_any _ _ _ _ (srt D1) zs _ z w1 S1.out V1.out (HZS.out.below B1.out) (HZ.out.below B1.out) (by rw [List.length_map]) H3.out (by rw [srt_len]; have := L1.out; omega) (by omega)).mono ?_
  rintro e w2 ⟨p2, q2, D2, rfl, hn2, hm2, hl2, hL2, hV2, hB2⟩
  have N2 := Lib.hid hn2
  have M2 := Lib.hid hm2
  have L2 := Lib.hid (show D2.length ≤ D1.length + zs.length by rw [srt_len] at hl2; exact hl2)
  have S2 := Lib.hid hL2
  have V2 := Lib.hid hV2
  have B2 := Lib.hid (B1.out.trans (hB2.mono T1.out))
  have T2 := Lib.hid B2.out.size
  clear hn2 hm2 hl2 hL2 hV2 hB2
  go_wp2_with fail
  go_at_call 9
  refine (union_any _ _ _ _ ys zs y z w2 (HYS.out.below B2.out) (HY.out.below B2.out) (HZS.out.below B2.out) (HZ.out.below B2.out) H2.out H3.out (by omega) (by omega)).mono ?_
  rintro e w3 ⟨p3, q3, D3, rfl, hn3, hm3, hl3, hL3, hV3, hB3⟩
  have N3 := Lib.hid hn3
  have M3 := Lib.hid hm3
  have L3 := Lib.hid hl3
  have S3 := Lib.hid hL3
  have V3 := Lib.hid hV3
  have B23 := Lib.hid hB3
  have B3 := Lib.hid (B2.out.trans (hB3.mono T2.out))
  have T3 := Lib.hid B3.out.size
  clear hn3 hm3 hl3 hL3 hV3 hB3
  go_wp2_with fail
  go_at_call 9
  refine (union_any _ _ _ _ xs (srt D3) x _ w3 (HXS.out.below B3.out) (HX.out.below B3.out) S3.out V3.out H1.out (by rw [List.length_map]) (by omega) (by rw [srt_len]; have := L3.out; omega)).mono ?_
  rintro e w4 ⟨p4, q4, D4, rfl, hn4, hm4, hl4, hL4, hV4, hB4⟩
  have N4 := Lib.hid hn4
  have M4 := Lib.hid hm4
  have S4 := Lib.hid hL4
  have V4 := Lib.hid hV4
  have B34 := Lib.hid hB4
  have B4 := Lib.hid (B3.out.trans (hB4.mono T3.out))
  have T4 := Lib.hid B4.out.size
  clear hn4 hm4 hl4 hL4 hV4 hB4
  have S24 := Lib.hid ((S2.out.below B23.out).below B34.out)
  have V24 := Lib.hid ((V2.out.below B23.out).below B34.out)
  go_wp2_with fail
  go_at_call 9
  refine (union_any _ _ _ _ (srt D2) [] _ [] w4 S24.out V24.out ⟨none, 0, rfl, Nat.le_refl _, Reads.none_⟩ ⟨none, 0, rfl, Nat.le_refl _, Reads.none_⟩ (by rw [List.length_map]) rfl (by rw [srt_len]; have := L1.out; have := L2.out; omega) (by simp)).mono ?_
  rintro e w5 ⟨p5, q5, D5, rfl, hn5, hm5, hl5, hL5, hV5, hB5⟩
  have N5 := Lib.hid hn5
  have M5 := Lib.hid hm5
  have S25 := Lib.hid (S24.out.below hB5)
  have V25 := Lib.hid (V24.out.below hB5)
  have S45 := Lib.hid (S4.out.below hB5)
  have V45 := Lib.hid (V4.out.below hB5)
  have S5 := Lib.hid hL5
  have V5 := Lib.hid hV5
  have B5 := Lib.hid (B4.out.trans (hB5.mono T4.out))
  clear hn5 hm5 hl5 hL5 hV5 hB5
  have e1 : ∀ s, look ((srt D1).zip ((srt D1).map fun s => ((look (ys.zip y) s).or (look (xs.zip x) s)).getD 0)) s = (look (ys.zip y) s).or (look (xs.zip x) s) := look_own (srt D1) _ fun s => srt_mem.trans (M1.out s)
  have e3 : ∀ s, look ((srt D3).zip ((srt D3).map fun s => ((look (zs.zip z) s).or (look (ys.zip y) s)).getD 0)) s = (look (zs.zip z) s).or (look (ys.zip y) s) := look_own (srt D3) _ fun s => srt_mem.trans (M3.out s)
  have e2 : ∀ s, look ((srt D2).zip ((srt D2).map fun s => ((look (zs.zip z) s).or (look ((srt D1).zip ((srt D1).map fun s => ((look (ys.zip y) s).or (look (xs.zip x) s)).getD 0)) s)).getD 0)) s = (look (zs.zip z) s).or (look ((srt D1).zip ((srt D1).map fun s => ((look (ys.zip y) s).or (look (xs.zip x) s)).getD 0)) s) := look_own (srt D2) _ fun s => srt_mem.trans (M2.out s)
  obtain ⟨Fa, hFa⟩ : ∃ Fa : ByteArray → Option Int, Fa = fun s => (look (zs.zip z) s).or ((look (ys.zip y) s).or (look (xs.zip x) s)) := ⟨_, rfl⟩
  have g2 : (fun s => (look (zs.zip z) s).or (look ((srt D1).zip ((srt D1).map fun s => ((look (ys.zip y) s).or (look (xs.zip x) s)).getD 0)) s)) = Fa := by
    rw [hFa]; funext s; rw [e1 s]
  have g4 : (fun s => (look ((srt D3).zip ((srt D3).map fun s => ((look (zs.zip z) s).or (look (ys.zip y) s)).getD 0)) s).or (look (xs.zip x) s)) = Fa := by
    rw [hFa]; funext s; rw [e3 s, Option.or_assoc]
  have m2 : ∀ s, s ∈ D2 ↔ (Fa s).isSome = true := fun s => by rw [← g2]; exact M2.out s
  have m4 : ∀ s, s ∈ D4 ↔ (Fa s).isSome = true := fun s => by rw [← g4]; exact M4.out s
  have v2' : (srt D2).map (fun s => ((look (zs.zip z) s).or (look ((srt D1).zip ((srt D1).map fun s => ((look (ys.zip y) s).or (look (xs.zip x) s)).getD 0)) s)).getD 0) = (srt D2).map fun s => (Fa s).getD 0 := by rw [← g2]
  have v4' : (srt D4).map (fun s => ((look ((srt D3).zip ((srt D3).map fun s => ((look (zs.zip z) s).or (look (ys.zip y) s)).getD 0)) s).or (look (xs.zip x) s)).getD 0) = (srt D4).map fun s => (Fa s).getD 0 := by rw [← g4]
  rw [v2'] at V25 V5
  rw [v4'] at V45
  have g5 : (fun s => (look (([] : List ByteArray).zip ([] : List Int)) s).or (look ((srt D2).zip ((srt D2).map fun s => (Fa s).getD 0)) s)) = Fa := by
    funext s
    rw [look_own (srt D2) Fa fun s => srt_mem.trans (m2 s)]
    rfl
  have m5 : ∀ s, s ∈ D5 ↔ (Fa s).isSome = true := fun s => by
    rw [← g5]
    have := M5.out s
    rw [v2'] at this
    exact this
  have v5' : (srt D5).map (fun s => ((look (([] : List ByteArray).zip ([] : List Int)) s).or (look ((srt D2).zip ((srt D2).map fun s => (Fa s).getD 0)) s)).getD 0) = (srt D5).map fun s => (Fa s).getD 0 := by
    have := congrArg (fun F : ByteArray → Option Int => (srt D5).map fun s => (F s).getD 0) g5
    exact this
  rw [v5'] at V5
  rw [srt_same N4.out N2.out fun s => (m4 s).trans (m2 s).symm] at S45 V45
  rw [srt_same N5.out N2.out fun s => (m5 s).trans (m2 s).symm] at S5 V5
  have hlen : (srt D2).length ≤ 1000 := by rw [srt_len]; have := L1.out; have := L2.out; omega
  have HLen := Lib.hid hlen
  have hlen2 : ((srt D2).map fun s => (Fa s).getD 0).length ≤ 1000 := by rw [List.length_map]; exact hlen
  have HLen2 := Lib.hid hlen2
  generalize ((srt D2).map fun s => (Fa s).getD 0) = Vs at V25 V45 V5 HLen2
  generalize srt D2 = Ls at S25 S45 S5 HLen
  clear e1 e2 e3 hFa g2 g4 m2 m4 v2' v4' g5 m5 v5' hlen hlen2
  go_wp2_with fail
  go_at_call 10
  refine (names_same p2 p4 Ls w5 S25.out S45.out HLen.out).mono ?_
  rintro e w' ⟨rfl, n1, rfl⟩
  go_wp2_with fail
  go_at_call 11
  refine (nums_same q2 q4 Vs _ (V25.out.drewN _) (V45.out.drewN _) HLen2.out).mono ?_
  rintro e w' ⟨rfl, n2, rfl⟩
  go_wp2_with fail
  go_at_call 10
  refine (names_same p2 p5 Ls _ (S25.out.drewN _) (S5.out.drewN _) HLen.out).mono ?_
  rintro e w' ⟨rfl, n3, rfl⟩
  go_wp2_with fail
  go_at_call 11
  refine (nums_same q2 q5 Vs _ (V25.out.drewN _) (V5.out.drewN _) HLen2.out).mono ?_
  rintro e w' ⟨rfl, n4, rfl⟩
  go_wp2
  go_ret
  refine ⟨rfl, ?_⟩
  (try simp only [World.drewN_drewN])
  first | exact below_drewN' B5.out _ | exact below_drewN' (below_drewN' (below_drewN' (below_drewN' B5.out _) _) _) _
end Go.Proofs.Ytppmdncmjcknkaa
