/-
  closeness. Conditions: none.
-/
import Derived.Test.YtionkdlcagikaaaPrcV
namespace Go.Proofs.Ytionkdlcagikaaa
open Go.RowKit
set_option linter.unusedVariables false
set_option linter.unusedSimpArgs false

def tB : List Nd := [⟨32, 0, bA, 0, 2⟩, ndN]
set_option maxRecDepth 100000 in
set_option maxHeartbeats 2000000 in
theorem close_any (w : World) : Calls Try.prog 8 #[] w (TrueTo w) := by
  go_enter Try.func8, Try.ntmps8
  go_wp2_with (first
    | (have hh := H12.out; go_at_call 4; refine (got_2 20 0 ⟨#[]⟩ (T1 := tB) (T2 := tN) (T := tLoc) (m := 4) rfl rfl (by decide) _ H12.out.2.2.2.2.2.2.2.2.2.2.2 H12.out.1).mono ?_; rintro e w13 ⟨A13, c13, rfl, hn13, hb13⟩; have H13 : Hid (Nodes w13 (.slice A1 1 c1) tN ∧ Nodes w13 (.slice A2 1 c2) tV ∧ Nodes w13 (.slice A3 1 c3) tS ∧ Nodes w13 (.slice A4 1 c4) tSelf ∧ Nodes w13 (.slice A5 2 c5) tPar ∧ Nodes w13 (.slice A6 2 c6) tApp ∧ Nodes w13 (.slice A7 3 c7) tIdx ∧ Nodes w13 (.slice A8 2 c8) tUna ∧ Nodes w13 (.slice A9 3 c9) tIf ∧ Nodes w13 (.slice A10 2 c10) tErr ∧ Nodes w13 (.slice A11 1 c11) tImp ∧ Nodes w13 (.slice A12 2 c12) tB ∧ Nodes w13 (.slice A13 4 c13) tLoc) := ⟨H12.out.1.below hb13, H12.out.2.1.below hb13, H12.out.2.2.1.below hb13, H12.out.2.2.2.1.below hb13, H12.out.2.2.2.2.1.below hb13, H12.out.2.2.2.2.2.1.below hb13, H12.out.2.2.2.2.2.2.1.below hb13, H12.out.2.2.2.2.2.2.2.1.below hb13, H12.out.2.2.2.2.2.2.2.2.1.below hb13, H12.out.2.2.2.2.2.2.2.2.2.1.below hb13, H12.out.2.2.2.2.2.2.2.2.2.2.1.below hb13, H12.out.2.2.2.2.2.2.2.2.2.2.2.below hb13, hn13⟩; have HB13 := Lib.hid (HB12.out.trans (hb13.mono HB12.out.size)); clear hn13 hb13)
    | (have hh := H11.out; go_at_call 4; refine (got_1 32 0 ⟨#[97]⟩ (T1 := tN) (T := tB) (m := 2) rfl rfl (by decide) _ H11.out.1).mono ?_; rintro e w12 ⟨A12, c12, rfl, hn12, hb12⟩; have H12 : Hid (Nodes w12 (.slice A1 1 c1) tN ∧ Nodes w12 (.slice A2 1 c2) tV ∧ Nodes w12 (.slice A3 1 c3) tS ∧ Nodes w12 (.slice A4 1 c4) tSelf ∧ Nodes w12 (.slice A5 2 c5) tPar ∧ Nodes w12 (.slice A6 2 c6) tApp ∧ Nodes w12 (.slice A7 3 c7) tIdx ∧ Nodes w12 (.slice A8 2 c8) tUna ∧ Nodes w12 (.slice A9 3 c9) tIf ∧ Nodes w12 (.slice A10 2 c10) tErr ∧ Nodes w12 (.slice A11 1 c11) tImp ∧ Nodes w12 (.slice A12 2 c12) tB) := ⟨H11.out.1.below hb12, H11.out.2.1.below hb12, H11.out.2.2.1.below hb12, H11.out.2.2.2.1.below hb12, H11.out.2.2.2.2.1.below hb12, H11.out.2.2.2.2.2.1.below hb12, H11.out.2.2.2.2.2.2.1.below hb12, H11.out.2.2.2.2.2.2.2.1.below hb12, H11.out.2.2.2.2.2.2.2.2.1.below hb12, H11.out.2.2.2.2.2.2.2.2.2.1.below hb12, H11.out.2.2.2.2.2.2.2.2.2.2.below hb12, hn12⟩; have HB12 := Lib.hid (HB11.out.trans (hb12.mono HB11.out.size)); clear hn12 hb12)
    | (have hh := H10.out; go_at_call 4; refine (got_0 26 0 ⟨#[97]⟩ (T := tImp) (m := 1) rfl rfl _).mono ?_; rintro e w11 ⟨A11, c11, rfl, hn11, hb11⟩; have H11 : Hid (Nodes w11 (.slice A1 1 c1) tN ∧ Nodes w11 (.slice A2 1 c2) tV ∧ Nodes w11 (.slice A3 1 c3) tS ∧ Nodes w11 (.slice A4 1 c4) tSelf ∧ Nodes w11 (.slice A5 2 c5) tPar ∧ Nodes w11 (.slice A6 2 c6) tApp ∧ Nodes w11 (.slice A7 3 c7) tIdx ∧ Nodes w11 (.slice A8 2 c8) tUna ∧ Nodes w11 (.slice A9 3 c9) tIf ∧ Nodes w11 (.slice A10 2 c10) tErr ∧ Nodes w11 (.slice A11 1 c11) tImp) := ⟨H10.out.1.below hb11, H10.out.2.1.below hb11, H10.out.2.2.1.below hb11, H10.out.2.2.2.1.below hb11, H10.out.2.2.2.2.1.below hb11, H10.out.2.2.2.2.2.1.below hb11, H10.out.2.2.2.2.2.2.1.below hb11, H10.out.2.2.2.2.2.2.2.1.below hb11, H10.out.2.2.2.2.2.2.2.2.1.below hb11, H10.out.2.2.2.2.2.2.2.2.2.below hb11, hn11⟩; have HB11 := Lib.hid (HB10.out.trans (hb11.mono HB10.out.size)); clear hn11 hb11)
    | (have hh := H9.out; go_at_call 4; refine (got_1 24 0 ⟨#[]⟩ (T1 := tN) (T := tErr) (m := 2) rfl rfl (by decide) _ H9.out.1).mono ?_; rintro e w10 ⟨A10, c10, rfl, hn10, hb10⟩; have H10 : Hid (Nodes w10 (.slice A1 1 c1) tN ∧ Nodes w10 (.slice A2 1 c2) tV ∧ Nodes w10 (.slice A3 1 c3) tS ∧ Nodes w10 (.slice A4 1 c4) tSelf ∧ Nodes w10 (.slice A5 2 c5) tPar ∧ Nodes w10 (.slice A6 2 c6) tApp ∧ Nodes w10 (.slice A7 3 c7) tIdx ∧ Nodes w10 (.slice A8 2 c8) tUna ∧ Nodes w10 (.slice A9 3 c9) tIf ∧ Nodes w10 (.slice A10 2 c10) tErr) := ⟨H9.out.1.below hb10, H9.out.2.1.below hb10, H9.out.2.2.1.below hb10, H9.out.2.2.2.1.below hb10, H9.out.2.2.2.2.1.below hb10, H9.out.2.2.2.2.2.1.below hb10, H9.out.2.2.2.2.2.2.1.below hb10, H9.out.2.2.2.2.2.2.2.1.below hb10, H9.out.2.2.2.2.2.2.2.2.below hb10, hn10⟩; have HB10 := Lib.hid (HB9.out.trans (hb10.mono HB9.out.size)); clear hn10 hb10)
    | (have hh := H8.out; go_at_call 4; refine (got_2 21 0 ⟨#[]⟩ (T1 := tN) (T2 := tN) (T := tIf) (m := 3) rfl rfl (by decide) _ H8.out.1 H8.out.1).mono ?_; rintro e w9 ⟨A9, c9, rfl, hn9, hb9⟩; have H9 : Hid (Nodes w9 (.slice A1 1 c1) tN ∧ Nodes w9 (.slice A2 1 c2) tV ∧ Nodes w9 (.slice A3 1 c3) tS ∧ Nodes w9 (.slice A4 1 c4) tSelf ∧ Nodes w9 (.slice A5 2 c5) tPar ∧ Nodes w9 (.slice A6 2 c6) tApp ∧ Nodes w9 (.slice A7 3 c7) tIdx ∧ Nodes w9 (.slice A8 2 c8) tUna ∧ Nodes w9 (.slice A9 3 c9) tIf) := ⟨H8.out.1.below hb9, H8.out.2.1.below hb9, H8.out.2.2.1.below hb9, H8.out.2.2.2.1.below hb9, H8.out.2.2.2.2.1.below hb9, H8.out.2.2.2.2.2.1.below hb9, H8.out.2.2.2.2.2.2.1.below hb9, H8.out.2.2.2.2.2.2.2.below hb9, hn9⟩; have HB9 := Lib.hid (HB8.out.trans (hb9.mono HB8.out.size)); clear hn9 hb9)
    | (have hh := H7.out; go_at_call 4; refine (got_1 22 4 ⟨#[]⟩ (T1 := tN) (T := tUna) (m := 2) rfl rfl (by decide) _ H7.out.1).mono ?_; rintro e w8 ⟨A8, c8, rfl, hn8, hb8⟩; have H8 : Hid (Nodes w8 (.slice A1 1 c1) tN ∧ Nodes w8 (.slice A2 1 c2) tV ∧ Nodes w8 (.slice A3 1 c3) tS ∧ Nodes w8 (.slice A4 1 c4) tSelf ∧ Nodes w8 (.slice A5 2 c5) tPar ∧ Nodes w8 (.slice A6 2 c6) tApp ∧ Nodes w8 (.slice A7 3 c7) tIdx ∧ Nodes w8 (.slice A8 2 c8) tUna) := ⟨H7.out.1.below hb8, H7.out.2.1.below hb8, H7.out.2.2.1.below hb8, H7.out.2.2.2.1.below hb8, H7.out.2.2.2.2.1.below hb8, H7.out.2.2.2.2.2.1.below hb8, H7.out.2.2.2.2.2.2.below hb8, hn8⟩; have HB8 := Lib.hid (HB7.out.trans (hb8.mono HB7.out.size)); clear hn8 hb8)
    | (have hh := H6.out; go_at_call 4; refine (got_2 15 0 ⟨#[]⟩ (T1 := tV) (T2 := tS) (T := tIdx) (m := 3) rfl rfl (by decide) _ H6.out.2.1 H6.out.2.2.1).mono ?_; rintro e w7 ⟨A7, c7, rfl, hn7, hb7⟩; have H7 : Hid (Nodes w7 (.slice A1 1 c1) tN ∧ Nodes w7 (.slice A2 1 c2) tV ∧ Nodes w7 (.slice A3 1 c3) tS ∧ Nodes w7 (.slice A4 1 c4) tSelf ∧ Nodes w7 (.slice A5 2 c5) tPar ∧ Nodes w7 (.slice A6 2 c6) tApp ∧ Nodes w7 (.slice A7 3 c7) tIdx) := ⟨H6.out.1.below hb7, H6.out.2.1.below hb7, H6.out.2.2.1.below hb7, H6.out.2.2.2.1.below hb7, H6.out.2.2.2.2.1.below hb7, H6.out.2.2.2.2.2.below hb7, hn7⟩; have HB7 := Lib.hid (HB6.out.trans (hb7.mono HB6.out.size)); clear hn7 hb7)
    | (have hh := H5.out; go_at_call 4; refine (got_1 18 0 ⟨#[]⟩ (T1 := tV) (T := tApp) (m := 2) rfl rfl (by decide) _ H5.out.2.1).mono ?_; rintro e w6 ⟨A6, c6, rfl, hn6, hb6⟩; have H6 : Hid (Nodes w6 (.slice A1 1 c1) tN ∧ Nodes w6 (.slice A2 1 c2) tV ∧ Nodes w6 (.slice A3 1 c3) tS ∧ Nodes w6 (.slice A4 1 c4) tSelf ∧ Nodes w6 (.slice A5 2 c5) tPar ∧ Nodes w6 (.slice A6 2 c6) tApp) := ⟨H5.out.1.below hb6, H5.out.2.1.below hb6, H5.out.2.2.1.below hb6, H5.out.2.2.2.1.below hb6, H5.out.2.2.2.2.below hb6, hn6⟩; have HB6 := Lib.hid (HB5.out.trans (hb6.mono HB5.out.size)); clear hn6 hb6)
    | (have hh := H4.out; go_at_call 4; refine (got_1 30 0 ⟨#[]⟩ (T1 := tN) (T := tPar) (m := 2) rfl rfl (by decide) _ H4.out.1).mono ?_; rintro e w5 ⟨A5, c5, rfl, hn5, hb5⟩; have H5 : Hid (Nodes w5 (.slice A1 1 c1) tN ∧ Nodes w5 (.slice A2 1 c2) tV ∧ Nodes w5 (.slice A3 1 c3) tS ∧ Nodes w5 (.slice A4 1 c4) tSelf ∧ Nodes w5 (.slice A5 2 c5) tPar) := ⟨H4.out.1.below hb5, H4.out.2.1.below hb5, H4.out.2.2.1.below hb5, H4.out.2.2.2.below hb5, hn5⟩; have HB5 := Lib.hid (HB4.out.trans (hb5.mono HB4.out.size)); clear hn5 hb5)
    | (have hh := H3.out; go_at_call 4; refine (got_0 6 0 ⟨#[]⟩ (T := tSelf) (m := 1) rfl rfl _).mono ?_; rintro e w4 ⟨A4, c4, rfl, hn4, hb4⟩; have H4 : Hid (Nodes w4 (.slice A1 1 c1) tN ∧ Nodes w4 (.slice A2 1 c2) tV ∧ Nodes w4 (.slice A3 1 c3) tS ∧ Nodes w4 (.slice A4 1 c4) tSelf) := ⟨H3.out.1.below hb4, H3.out.2.1.below hb4, H3.out.2.2.below hb4, hn4⟩; have HB4 := Lib.hid (HB3.out.trans (hb4.mono HB3.out.size)); clear hn4 hb4)
    | (have hh := H2.out; go_at_call 4; refine (got_0 5 0 ⟨#[97]⟩ (T := tS) (m := 1) rfl rfl _).mono ?_; rintro e w3 ⟨A3, c3, rfl, hn3, hb3⟩; have H3 : Hid (Nodes w3 (.slice A1 1 c1) tN ∧ Nodes w3 (.slice A2 1 c2) tV ∧ Nodes w3 (.slice A3 1 c3) tS) := ⟨H2.out.1.below hb3, H2.out.2.below hb3, hn3⟩; have HB3 := Lib.hid (HB2.out.trans (hb3.mono HB2.out.size)); clear hn3 hb3)
    | (have hh := H1.out; go_at_call 4; refine (got_0 8 0 ⟨#[115, 116, 100]⟩ (T := tV) (m := 1) rfl rfl _).mono ?_; rintro e w2 ⟨A2, c2, rfl, hn2, hb2⟩; have H2 : Hid (Nodes w2 (.slice A1 1 c1) tN ∧ Nodes w2 (.slice A2 1 c2) tV) := ⟨H1.out.below hb2, hn2⟩; have HB2 := Lib.hid (HB1.out.trans (hb2.mono HB1.out.size)); clear hn2 hb2)
    | (go_at_call 4; refine (got_0 4 0 ⟨#[49]⟩ (T := tN) (m := 1) rfl rfl _).mono ?_; rintro e w1 ⟨A1, c1, rfl, hn1, hb1⟩; have H1 : Hid (Nodes w1 (.slice A1 1 c1) tN) := hn1; have HB1 := Lib.hid (hb1); clear hn1 hb1))
  obtain ⟨W, hW⟩ : ∃ W, W = (w13.alloc (.cells #[.slice A1 1 c1, .slice A2 1 c2, .slice A3 1 c3, .slice A4 1 c4, .slice A5 2 c5, .slice A6 2 c6, .slice A7 3 c7, .slice A8 2 c8, .slice A9 3 c9, .slice A10 2 c10, .slice A11 1 c11, .slice A13 4 c13] 24)).alloc (.cells #[.int .i64 1, .int .i64 1, .int .i64 1, .int .i64 1, .int .i64 1, .int .i64 2, .int .i64 2, .int .i64 4, .int .i64 16, .int .i64 16, .int .i64 16, .int .i64 16] 3) := ⟨_, rfl⟩
  have hx1 : Below w13.heap.size w13 (w13.alloc (.cells #[.slice A1 1 c1, .slice A2 1 c2, .slice A3 1 c3, .slice A4 1 c4, .slice A5 2 c5, .slice A6 2 c6, .slice A7 3 c7, .slice A8 2 c8, .slice A9 3 c9, .slice A10 2 c10, .slice A11 1 c11, .slice A13 4 c13] 24)) := (Below.refl _ _).alloc (Nat.le_refl _) _
  have hx2 : Below (w13.alloc (.cells #[.slice A1 1 c1, .slice A2 1 c2, .slice A3 1 c3, .slice A4 1 c4, .slice A5 2 c5, .slice A6 2 c6, .slice A7 3 c7, .slice A8 2 c8, .slice A9 3 c9, .slice A10 2 c10, .slice A11 1 c11, .slice A13 4 c13] 24)).heap.size (w13.alloc (.cells #[.slice A1 1 c1, .slice A2 1 c2, .slice A3 1 c3, .slice A4 1 c4, .slice A5 2 c5, .slice A6 2 c6, .slice A7 3 c7, .slice A8 2 c8, .slice A9 3 c9, .slice A10 2 c10, .slice A11 1 c11, .slice A13 4 c13] 24)) W := by rw [hW]; exact (Below.refl _ _).alloc (Nat.le_refl _) _
  have hl : Blk W w13.heap.size 24 #[.slice A1 1 c1, .slice A2 1 c2, .slice A3 1 c3, .slice A4 1 c4, .slice A5 2 c5, .slice A6 2 c6, .slice A7 3 c7, .slice A8 2 c8, .slice A9 3 c9, .slice A10 2 c10, .slice A11 1 c11, .slice A13 4 c13] := by rw [hW]; exact (Blk.new w13 _ _).alloc _
  have hw : Blk W (w13.heap.size + 1) 3 #[.int .i64 1, .int .i64 1, .int .i64 1, .int .i64 1, .int .i64 1, .int .i64 2, .int .i64 2, .int .i64 4, .int .i64 16, .int .i64 16, .int .i64 16, .int .i64 16] := by
    have hz := Blk.new (w13.alloc (.cells #[.slice A1 1 c1, .slice A2 1 c2, .slice A3 1 c3, .slice A4 1 c4, .slice A5 2 c5, .slice A6 2 c6, .slice A7 3 c7, .slice A8 2 c8, .slice A9 3 c9, .slice A10 2 c10, .slice A11 1 c11, .slice A13 4 c13] 24)) 3 #[.int .i64 1, .int .i64 1, .int .i64 1, .int .i64 1, .int .i64 1, .int .i64 2, .int .i64 2, .int .i64 4, .int .i64 16, .int .i64 16, .int .i64 16, .int .i64 16]
    rw [World.size_alloc] at hz
    rw [hW]
    exact hz
  have HC : Hid (∀ k, k < 12 → ∃ (A : Option Addr) (n c : Nat) (z : Int), W.cell? ⟨w13.heap.size, k, none⟩ = some (.slice A n c) ∧ W.cell? ⟨w13.heap.size + 1, k, none⟩ = some (.int .i64 z) ∧ ∀ w', Below W.heap.size W w' → Calls Try.prog 5 #[.slice A n c, .int .i64 0] w' (PrecTo z w')) := by
    intro k hk
    match k, hk with
    | 0, _ => exact ⟨_, _, _, 1, hl.cell 0, hw.cell 0, fun w' hb => pc_N w' _ (((H13.out.1.below hx1).below hx2).below hb)⟩
    | 1, _ => exact ⟨_, _, _, 1, hl.cell 1, hw.cell 1, fun w' hb => pc_V w' _ (((H13.out.2.1.below hx1).below hx2).below hb)⟩
    | 2, _ => exact ⟨_, _, _, 1, hl.cell 2, hw.cell 2, fun w' hb => pc_S w' _ (((H13.out.2.2.1.below hx1).below hx2).below hb)⟩
    | 3, _ => exact ⟨_, _, _, 1, hl.cell 3, hw.cell 3, fun w' hb => pc_Self w' _ (((H13.out.2.2.2.1.below hx1).below hx2).below hb)⟩
    | 4, _ => exact ⟨_, _, _, 1, hl.cell 4, hw.cell 4, fun w' hb => pc_Par w' _ (((H13.out.2.2.2.2.1.below hx1).below hx2).below hb)⟩
    | 5, _ => exact ⟨_, _, _, 2, hl.cell 5, hw.cell 5, fun w' hb => pc_App w' _ (((H13.out.2.2.2.2.2.1.below hx1).below hx2).below hb)⟩
    | 6, _ => exact ⟨_, _, _, 2, hl.cell 6, hw.cell 6, fun w' hb => pc_Idx w' _ (((H13.out.2.2.2.2.2.2.1.below hx1).below hx2).below hb)⟩
    | 7, _ => exact ⟨_, _, _, 4, hl.cell 7, hw.cell 7, fun w' hb => pc_Una w' _ (((H13.out.2.2.2.2.2.2.2.1.below hx1).below hx2).below hb)⟩
    | 8, _ => exact ⟨_, _, _, 16, hl.cell 8, hw.cell 8, fun w' hb => pc_If w' _ (((H13.out.2.2.2.2.2.2.2.2.1.below hx1).below hx2).below hb)⟩
    | 9, _ => exact ⟨_, _, _, 16, hl.cell 9, hw.cell 9, fun w' hb => pc_Err w' _ (((H13.out.2.2.2.2.2.2.2.2.2.1.below hx1).below hx2).below hb)⟩
    | 10, _ => exact ⟨_, _, _, 16, hl.cell 10, hw.cell 10, fun w' hb => pc_Imp w' _ (((H13.out.2.2.2.2.2.2.2.2.2.2.1.below hx1).below hx2).below hb)⟩
    | 11, _ => exact ⟨_, _, _, 16, hl.cell 11, hw.cell 11, fun w' hb => pc_Loc w' _ (((H13.out.2.2.2.2.2.2.2.2.2.2.2.2.below hx1).below hx2).below hb)⟩
    | k + 12, h => exact absurd h (by omega)
  have HBW : Hid (Below w.heap.size w W) := HB13.out.trans ((hx1.trans (hx2.mono hx1.size)).mono HB13.out.size)
  have HW := Lib.hid hW
  clear hx1 hx2 hl hw hW
  go_loopw [6] (fun i wr => ∃ k : Nat, k ≤ 12 ∧ i = .int .i64 (k : Int) ∧ Below W.heap.size W wr) (fun i _ => 12 - (intOf i).toNat)
  case atStart => exact ⟨0, by omega, rfl, by rw [← HW.out]; exact Below.refl _ _⟩
  case round =>
    obtain ⟨k, hk, rfl, hbw⟩ := hrel
    have HBw := Lib.hid hbw
    by_cases hk2 : k < 12
    · obtain ⟨A, n, c, z, hc, hz, hp⟩ := HC.out k hk2
      have y0 := cell_below hc hbw
      have y1 := cell_below hz hbw
      have HP := Lib.hid hp
      have h4 : (0 : Int) ≤ (k : Int) := by omega
      have h5 : (k : Int) < 12 := by omega
      clear hbw hc hz hp
      go_wp2_with fail
      go_region_held3 (fun w' => w'.cell? ⟨w13.heap.size, k, none⟩ = some (.slice A n c) ∧ w'.cell? ⟨w13.heap.size + 1, k, none⟩ = some (.int .i64 z))
        (first | with_reducible exact ⟨y0, y1⟩ | with_reducible exact ⟨cell_dr y0, cell_dr y1⟩ | with_reducible exact ⟨z0, z1⟩ | fail)
        (first | (go_at_call 5; refine (HP.out _ HBw.out.drew).mono ?_; rintro e w2 ⟨rfl, hb2⟩; have z0 := cell_below (cell_dr y0) hb2; have z1 := cell_below (cell_dr y1) hb2; have HBw2 := Lib.hid ((HBw.out.drew).trans (hb2.mono HBw.out.size)); clear hb2))
      all_goals
        go_wp2
        go_roundw
        case rel => exact ⟨k + 1, by omega, by go_num, HBw2.out⟩
        case measure => simp [intOf]; omega
    · obtain rfl : k = 12 := by omega
      clear hbw
      go_wp2
      go_ret
      exact ⟨rfl, HBW.out.trans (HBw.out.mono HBW.out.size)⟩
end Go.Proofs.Ytionkdlcagikaaa
