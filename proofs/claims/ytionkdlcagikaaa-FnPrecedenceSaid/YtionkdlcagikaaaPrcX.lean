/-
  FnPrecedence: the walk. Conditions: none.
-/
import Derived.Test.YtionkdlcagikaaaPrcU
import Derived.Test.YtionkdlcagikaaaPrcW
namespace Go.Proofs.Ytionkdlcagikaaa
open Go.RowKit
set_option linter.unusedVariables false
set_option linter.unusedSimpArgs false

/-- What a binary operator's tree, its closeness, its sign and its level are. -/
structure OpIs (m z l k : Int) (s : ByteArray) (T : List Nd) : Prop where
  made : ∀ (W : World) (v : Value), Trees W v [tN, tN] → Calls Try.prog 4 #[.agg #[.int .i64 23, .int .i64 (1 + m), .string ⟨#[]⟩, .int .i64 0, .int .i64 0], v] W (GotTo 3 T W)
  prec : PrecOf T z
  sign : ∀ W, Calls Try.prog 7 #[.int .i64 (1 + m)] W (SignTo W s)
  binds : ∀ W, Calls Try.prog 6 #[.string s] W fun e w' => e = .returned (.tuple #[.int .i64 l, .int .i64 k]) ∧ Below W.heap.size W w'
theorem blk_two {w w1 : World} {c1 c2 : Array Value} (hb : Below ((w.alloc (.cells c1 23)).alloc (.cells c2 23)).heap.size ((w.alloc (.cells c1 23)).alloc (.cells c2 23)) w1) :
    Blk w1 w.heap.size 23 c1 ∧ Blk w1 (w.heap.size + 1) 23 c2 ∧ Below w.heap.size w w1 ∧ w.heap.size + 1 < w1.heap.size := by
  have h1 : Blk ((w.alloc (.cells c1 23)).alloc (.cells c2 23)) w.heap.size 23 c1 := (Blk.new w _ _).alloc _
  have h2 := Blk.new (w.alloc (.cells c1 23)) 23 c2
  rw [World.size_alloc] at h2
  have h3 : Blk w1 (w.heap.size + 1) 23 c2 := h2.later hb
  exact ⟨h1.later hb, h3, (((Below.refl _ _).alloc (Nat.le_refl _) _).alloc (by simp) _).trans (hb.mono (by simp; omega)), h3.lt⟩
set_option maxRecDepth 100000 in
set_option maxHeartbeats 4000000 in
theorem law_any (x y mi mj zi zj li lj ki kj : Int) (si sj : ByteArray) (Ti Tj : List Nd) (hx0 : 0 ≤ x) (hx1 : x ≤ 255) (hy0 : 0 ≤ y) (hy1 : y ≤ 255) (hxi : x % 19 = mi) (hyj : y % 19 = mj) (hi0 : 0 ≤ mi) (hi1 : mi < 19) (hj0 : 0 ≤ mj) (hj1 : mj < 19)
    (hI : OpIs mi zi li ki si Ti) (hJ : OpIs mj zj lj kj sj Tj) (hz0 : 4 < zi) (hz1 : zi < 16) (hlt : (zi < zj) = (li < lj)) (heq : (zi == zj) = (li == lj)) (w : World) :
    Calls Try.prog 3 #[.int .u8 x, .int .u8 y] w (TrueTo w) := by
  have HI := Lib.hid hI
  have HJ := Lib.hid hJ
  have HLt := Lib.hid hlt
  have HEq := Lib.hid heq
  clear hI hJ hlt heq
  go_enter Try.func3, Try.ntmps3
  go_wp2_with (first | (go_at_call 4; refine (got_0 4 0 ⟨#[49]⟩ (T := tN) (m := 1) rfl rfl _).mono ?_; rintro e w1 ⟨A1, c1, rfl, hn1, hb1⟩))
  obtain ⟨hbx, hby, hbw, hsz⟩ := blk_two hb1
  have HBx := Lib.hid hbx
  have HBy := Lib.hid hby
  have HBw := Lib.hid hbw
  have HN1 := Lib.hid hn1
  have hg0 : w.heap.size < w1.heap.size := by omega
  have KS : Hid (∀ w', Below w1.heap.size w1 w' → w'.cell? ⟨w.heap.size, 0, none⟩ = some (.int .i64 23) ∧ w'.cell? ⟨w.heap.size, 1, none⟩ = some (.int .i64 (1 + mi)) ∧ w'.cell? ⟨w.heap.size, 2, none⟩ = some (.string ⟨#[]⟩) ∧ w'.cell? ⟨w.heap.size, 3, none⟩ = some (.int .i64 0) ∧ w'.cell? ⟨w.heap.size, 4, none⟩ = some (.int .i64 0) ∧ w'.cell? ⟨w.heap.size + 1, 0, none⟩ = some (.int .i64 23) ∧ w'.cell? ⟨w.heap.size + 1, 1, none⟩ = some (.int .i64 (1 + mj)) ∧ w'.cell? ⟨w.heap.size + 1, 2, none⟩ = some (.string ⟨#[]⟩) ∧ w'.cell? ⟨w.heap.size + 1, 3, none⟩ = some (.int .i64 0) ∧ w'.cell? ⟨w.heap.size + 1, 4, none⟩ = some (.int .i64 0)) := fun w' hb => ⟨(hbx.later hb).cell 0, (hbx.later hb).cell 1, (hbx.later hb).cell 2, (hbx.later hb).cell 3, (hbx.later hb).cell 4, (hby.later hb).cell 0, (hby.later hb).cell 1, (hby.later hb).cell 2, (hby.later hb).cell 3, (hby.later hb).cell 4⟩
  have TA0 : Trees (w1.alloc (.cells #[.slice A1 1 c1, .slice A1 1 c1] 24)) (.slice (some ⟨w1.heap.size, 0, none⟩) 2 2) [tN, tN] := trees_2 hn1 hn1
  have TB0 : Trees ((w1.alloc (.cells #[.slice A1 1 c1, .slice A1 1 c1] 24)).alloc (.cells #[.slice A1 1 c1, .slice A1 1 c1] 24)) (.slice (some ⟨w1.heap.size, 0, none⟩) 2 2) [tN, tN] := TA0.below ((Below.refl _ _).alloc (Nat.le_refl _) _)
  have TC0 : Trees ((w1.alloc (.cells #[.slice A1 1 c1, .slice A1 1 c1] 24)).alloc (.cells #[.slice A1 1 c1, .slice A1 1 c1] 24)) (.slice (some ⟨w1.heap.size + 1, 0, none⟩) 2 2) [tN, tN] := by
    have hq := hn1.below ((Below.refl w1.heap.size w1).alloc (Nat.le_refl _) (.cells #[.slice A1 1 c1, .slice A1 1 c1] 24))
    have hu := trees_2 hq hq
    rw [World.size_alloc] at hu
    exact hu
  have TA : Trees (w1.alloc (.cells #[.slice A1 1 c1, .slice A1 1 c1] 24)).drew (.slice (some ⟨w1.heap.size, 0, none⟩) 2 2) [tN, tN] := TA0.below (Below.refl _ _).drew
  have TB : Trees ((w1.alloc (.cells #[.slice A1 1 c1, .slice A1 1 c1] 24)).alloc (.cells #[.slice A1 1 c1, .slice A1 1 c1] 24)).drew (.slice (some ⟨w1.heap.size, 0, none⟩) 2 2) [tN, tN] := TB0.below (Below.refl _ _).drew
  have TC : Trees ((w1.alloc (.cells #[.slice A1 1 c1, .slice A1 1 c1] 24)).alloc (.cells #[.slice A1 1 c1, .slice A1 1 c1] 24)).drew (.slice (some ⟨w1.heap.size + 1, 0, none⟩) 2 2) [tN, tN] := TC0.below (Below.refl _ _).drew
  have b1 : Below w1.heap.size w1 w1 := Below.refl _ _
  have bD : Below w1.heap.size w1 w1.drew := b1.drew
  have bA : Below w1.heap.size w1 (w1.alloc (.cells #[.slice A1 1 c1, .slice A1 1 c1] 24)).drew := (b1.alloc (Nat.le_refl _) _).drew
  have bB : Below w1.heap.size w1 ((w1.alloc (.cells #[.slice A1 1 c1, .slice A1 1 c1] 24)).alloc (.cells #[.slice A1 1 c1, .slice A1 1 c1] 24)).drew := ((b1.alloc (Nat.le_refl _) _).alloc (by simp) _).drew
  have HTA := Lib.hid TA
  have HTB := Lib.hid TB
  have HTC := Lib.hid TC
  have B1 := Lib.hid b1
  have BD := Lib.hid bD
  have BA := Lib.hid bA
  have BB := Lib.hid bB
  clear hbx hby hbw hsz hn1 hb1 TA0 TB0 TC0 TA TB TC b1 bD bA bB hg0
  go_region_held3 (fun w' => w'.cell? ⟨w.heap.size, 0, none⟩ = some (.int .i64 23) ∧ w'.cell? ⟨w.heap.size, 1, none⟩ = some (.int .i64 (1 + mi)) ∧ w'.cell? ⟨w.heap.size, 2, none⟩ = some (.string ⟨#[]⟩) ∧ w'.cell? ⟨w.heap.size, 3, none⟩ = some (.int .i64 0) ∧ w'.cell? ⟨w.heap.size, 4, none⟩ = some (.int .i64 0) ∧ w'.cell? ⟨w.heap.size + 1, 0, none⟩ = some (.int .i64 23) ∧ w'.cell? ⟨w.heap.size + 1, 1, none⟩ = some (.int .i64 (1 + mj)) ∧ w'.cell? ⟨w.heap.size + 1, 2, none⟩ = some (.string ⟨#[]⟩) ∧ w'.cell? ⟨w.heap.size + 1, 3, none⟩ = some (.int .i64 0) ∧ w'.cell? ⟨w.heap.size + 1, 4, none⟩ = some (.int .i64 0))
    (first | with_reducible exact KS.out _ B1.out | with_reducible exact KS.out _ BD.out | with_reducible exact KS.out _ BA.out | with_reducible exact KS.out _ BB.out | with_reducible exact KS.out _ HB2.out | with_reducible exact KS.out _ (HB2.out.alloc HB2.out.size _) | with_reducible exact KS.out _ HB3.out | with_reducible exact KS.out _ (HB3.out.alloc HB3.out.size _) | with_reducible exact KS.out _ HB4.out | with_reducible exact KS.out _ HB5.out | fail)
    (first
      | (have hh := HN4.out; go_at_call 5; refine (HJ.out.prec _ _ HN4.out).mono ?_; rintro e w5 ⟨rfl, hb5⟩; have HB5 := Lib.hid (HB4.out.trans (hb5.mono HB4.out.size)); clear hb5 hh)
      | (have hh := HB3.out; go_at_call 4; refine (HJ.out.made _ _ (by first | with_reducible exact HTM.out | with_reducible exact HTP1.out | with_reducible exact HTP2.out | with_reducible exact HTP3.out)).mono ?_; rintro e w4 ⟨A4, c4, rfl, hn4, hb4⟩; have HN4 := Lib.hid hn4; have HB4 : Hid (Below w1.heap.size w1 w4) := (by first | exact HB3.out.trans (hb4.mono HB3.out.size) | exact (HB3.out.alloc HB3.out.size _).trans (hb4.mono (HB3.out.alloc HB3.out.size _).size)); clear hn4 hb4 hh)
      | (have hh := HN2.out; go_at_call 5; refine (HI.out.prec _ _ (by first | with_reducible exact HN2.out | with_reducible exact HN2A.out)).mono ?_; rintro e w3 ⟨rfl, hb3⟩; have HB3 : Hid (Below w1.heap.size w1 w3) := (by first | exact HB2.out.trans (hb3.mono HB2.out.size) | exact (HB2.out.alloc HB2.out.size _).trans (hb3.mono (HB2.out.alloc HB2.out.size _).size)); have h3 := HN1.out.below HB3.out; have HTM : Hid (Trees (w3.alloc (.cells #[.slice A1 1 c1, .slice A1 1 c1] 24)) (.slice (some ⟨w3.heap.size, 0, none⟩) 2 2) [tN, tN]) := trees_2 h3 h3; (first | (have HTP1 := Lib.hid (HT2.out.1.below hb3); have HTP2 := Lib.hid (HT2.out.2.below hb3)) | (have HTP3 := Lib.hid (HT3.out.below hb3)) | skip); clear hb3 h3 hh)
      | (go_at_call 4; refine (HI.out.made _ _ (by first | with_reducible exact HTA.out | with_reducible exact HTB.out | with_reducible exact HTC.out)).mono ?_; rintro e w2 ⟨A2, c2, rfl, hn2, hb2⟩; have HN2 := Lib.hid hn2; have HN2A : Hid (Nodes (w2.alloc (.cells #[.slice A1 1 c1, .slice A1 1 c1] 24)) (.slice A2 3 c2) Ti) := hn2.below ((Below.refl _ _).alloc (Nat.le_refl _) _); have HB2 : Hid (Below w1.heap.size w1 w2) := (by first | exact BA.out.trans (hb2.mono BA.out.size) | exact BB.out.trans (hb2.mono BB.out.size)); have h2 := HN1.out.below HB2.out; have HT3 : Hid (Trees (w2.alloc (.cells #[.slice A1 1 c1, .slice A1 1 c1] 24)) (.slice (some ⟨w2.heap.size, 0, none⟩) 2 2) [tN, tN]) := trees_2 h2 h2; (first | (have HT2 := Lib.hid (And.intro (HTB.out.below hb2) (HTC.out.below hb2))) | skip); clear hn2 hb2 h2))
  all_goals
    obtain ⟨-, p5, -, -, -, -, q5, -, -, -⟩ := KS.out _ HB5.out
    have HW5 : Hid (Below w.heap.size w w5) := HBw.out.trans (HB5.out.mono HBw.out.size)
    have hlt := HLt.out
    have heq := HEq.out
    clear KS HTA HTB HTC B1 BD BA BB HBx HBy HN1 HB2 HB3 HB4 HB5 HN2 HN2A HN4 HT3 HTM HBw HLt HEq hi0 hi1 hj0 hj1 hxi hyj hx0 hx1 hy0 hy1
    go_wp2_with (first
      | (have hh := HW9.out; go_at_call 8; refine (close_any _).mono ?_; rintro e w10 ⟨rfl, hb10⟩; have HW10 := Lib.hid (HW9.out.trans (hb10.mono HW9.out.size)); clear hb10)
      | (have hh := HW8.out; go_at_call 6; refine (HJ.out.binds _).mono ?_; rintro e w9 ⟨rfl, hb9⟩; have HW9 := Lib.hid (HW8.out.trans (hb9.mono HW8.out.size)); clear hb9)
      | (have hh := HW7.out; go_at_call 7; refine (HJ.out.sign _).mono ?_; rintro e w8 ⟨rfl, hb8⟩; have HW8 := Lib.hid (HW7.out.trans (hb8.mono HW7.out.size)); clear hb8)
      | (have hh := HW6.out; go_at_call 6; refine (HI.out.binds _).mono ?_; rintro e w7 ⟨rfl, hb7⟩; have q7 := cell_below q6 hb7; have HW7 := Lib.hid (HW6.out.trans (hb7.mono HW6.out.size)); clear hb7 q6)
      | (go_at_call 7; refine (HI.out.sign _).mono ?_; rintro e w6 ⟨rfl, hb6⟩; have q6 := cell_below q5 hb6; have HW6 := Lib.hid (HW5.out.trans (hb6.mono HW5.out.size)); clear hb6 q5))
    go_ret
    exact ⟨rfl, HW10.out⟩
def zt (i : Fin 19) : Nat := bopTab[(bx i).val]!
theorem zt_in : ∀ i : Fin 19, 4 < zt i ∧ zt i < 16 := by decide +kernel
theorem zt_lt : ∀ i j : Fin 19, (zt i < zt j ↔ lv i.val < lv j.val) := by decide +kernel
theorem zt_eq : ∀ i j : Fin 19, (zt i = zt j ↔ lv i.val = lv j.val) := by decide +kernel
theorem op_is (i : Fin 19) : OpIs (i.val : Int) (zt i : Int) (lv i.val : Int) ((i.val : Int) + 1) (sg i.val) (tBin i) where
  made := fun W v h => got_of (n := ⟨23, 1 + (i.val : Int), ⟨#[]⟩, 0, 0⟩) (by rw [Int.add_comm]; rfl) rfl (by decide) (by decide) h (Below.refl _ _)
  prec := pc_Bin i
  sign := fun W => by rw [Int.add_comm]; exact signs_any i.val i.isLt W
  binds := fun W => bindS_any i.val i.isLt W
theorem walk (x : Int) (hx : (Lit.int .u8 x).wf = true) (y : Int) (hy : (Lit.int .u8 y).wf = true) (w : World) :
    Calls Try.prog 3 #[.int .u8 x, .int .u8 y] w (fun e w' => e = .returned (.bool true) ∧ Below w.heap.size w w') := by
  have h1 : 0 ≤ x ∧ x ≤ 255 := by
    have h := hx
    simp only [Lit.wf, Bool.and_eq_true, decide_eq_true_eq] at h
    exact h
  have h2 : 0 ≤ y ∧ y ≤ 255 := by
    have h := hy
    simp only [Lit.wf, Bool.and_eq_true, decide_eq_true_eq] at h
    exact h
  obtain ⟨i, hi⟩ : ∃ i : Fin 19, x % 19 = (i.val : Int) := ⟨⟨(x % 19).toNat, by omega⟩, by simp; omega⟩
  obtain ⟨j, hj⟩ : ∃ j : Fin 19, y % 19 = (j.val : Int) := ⟨⟨(y % 19).toNat, by omega⟩, by simp; omega⟩
  have z1 := zt_in i
  have z2 := zt_lt i j
  have z3 := zt_eq i j
  have i1 := i.isLt
  have j1 := j.isLt
  exact law_any x y _ _ _ _ _ _ _ _ _ _ _ _ h1.1 h1.2 h2.1 h2.2 hi hj (by omega) (by omega) (by omega) (by omega) (op_is i) (op_is j) (by omega) (by omega) (propext (by omega)) (by
    rw [Bool.eq_iff_iff, beq_iff_eq, beq_iff_eq]
    omega) w
end Go.Proofs.Ytionkdlcagikaaa
