/-
  The builder makes leaves. Conditions: none.
-/
import Derived.Test.YtionkdlcagikaaaPrcE
namespace Go.Proofs.Ytionkdlcagikaaa
open Go.RowKit
set_option linter.unusedVariables false
set_option linter.unusedSimpArgs false

theorem cell_al {w : World} {p : Addr} {v : Value} (o : Obj) (h : w.cell? p = some v) : (w.alloc o).cell? p = some v := cell_below h ((Below.refl _ _).alloc (Nat.le_refl _) _)
theorem cell_b {B : Nat} {w w' : World} {p : Addr} {v : Value} (h : w.cell? p = some v) (hp : p.block < B) (hb : Below B w w') : w'.cell? p = some v := (hb.cell hp).trans h
theorem set5 (w : World) (B : Nat) (a b c d e : Value) : Below B w (((((w.setCell ⟨B, 0, none⟩ a).setCell ⟨B, 1, none⟩ b).setCell ⟨B, 2, none⟩ c).setCell ⟨B, 3, none⟩ d).setCell ⟨B, 4, none⟩ e) := by
  have h1 : Below B w (w.setCell ⟨B, 0, none⟩ a) := (Below.refl B w).setCell (Nat.le_refl B) a
  have h2 : Below B w ((w.setCell ⟨B, 0, none⟩ a).setCell ⟨B, 1, none⟩ b) := h1.setCell (Nat.le_refl B) b
  have h3 : Below B w (((w.setCell ⟨B, 0, none⟩ a).setCell ⟨B, 1, none⟩ b).setCell ⟨B, 2, none⟩ c) := h2.setCell (Nat.le_refl B) c
  have h4 : Below B w ((((w.setCell ⟨B, 0, none⟩ a).setCell ⟨B, 1, none⟩ b).setCell ⟨B, 2, none⟩ c).setCell ⟨B, 3, none⟩ d) := h3.setCell (Nat.le_refl B) d
  exact h4.setCell (Nat.le_refl B) e
theorem cell_dr {w : World} {p : Addr} {v : Value} (h : w.cell? p = some v) : w.drew.cell? p = some v := h
/-- What leaf says of a node. -/
def LeafOf (gb : Nat) (n : Nd) (t : TypeId) : Prop := ∀ w : World, w.cell? ⟨gb, 1, none⟩ = some (.bool false) → Calls Try.prog 16 #[.pointer (some ⟨gb, 0, none⟩), aggN n] w (LeafTo t w)
set_option maxRecDepth 100000 in
set_option maxHeartbeats 500000 in
theorem made_leaf (base gb c : Nat) (A : Option Addr) (T : List Nd) (a : Nat) (n : Nd) (t : TypeId) (w : World) (h : Bld w base gb A c T) (hF : Fit T) (hn : T[a]? = some n) (hk : kidsOf T a = []) (hlf : LeafOf gb n t) :
    Calls Try.prog 14 #[.pointer (some ⟨gb, 0, none⟩), .int .i64 a] w (LeafTo t w) := by
  have HB := Lib.hid h
  have HF := Lib.hid hF
  have HLf : Hid (∀ w : World, w.cell? ⟨gb, 1, none⟩ = some (.bool false) → Calls Try.prog 16 #[.pointer (some ⟨gb, 0, none⟩), .agg #[.int .i64 n.kind, .int .i64 n.op, .string n.text, .int .i64 n.flag, .int .i64 n.size]] w (LeafTo t w)) := hlf
  have ha := (List.getElem?_eq_some_iff.1 hn).1
  obtain ⟨hbg, hr, gp, ps, hp1, hB, hP, hps⟩ := h
  have hgl := hB.lt
  have y0 : w.cell? ⟨gb, 0, none⟩ = some (.slice A T.length c) := hB.cell 0
  obtain ⟨ad, rfl, hab, g0, g1, g2, g3, g4⟩ := (hr.more (show base ≤ w.heap.size by omega)).node hn
  have a0 : (0 : Int) ≤ (a : Int) := by omega
  have a1 : (a : Int) < (T.length : Int) := by omega
  have HKd : Hid (∀ w1, Below w.heap.size w w1 → Calls Try.prog 15 #[.pointer (some ⟨gb, 0, none⟩), .int .i64 a] w1 (PlacesTo w1 [])) := fun w1 h1 => by
    have := kids_any base gb c (some ad) T a w1 (HB.out.below h1) HF.out ha
    rw [hk] at this
    exact this
  have hpb : (ad.add (a * 5)).block < w.heap.size := by rw [block_of_add]; exact hab
  clear hr hB hP hF hlf hn hk hps
  go_enter Try.func14, Try.ntmps14
  go_wp2_with fail
  go_region_held3 (fun w' => w'.cell? ⟨gb, 0, none⟩ = some (.slice (some ad) T.length c) ∧ w'.cell? (ad.add (a * 5)) = some (.int .i64 n.kind) ∧ w'.cell? ⟨(ad.add (a * 5)).block, (ad.add (a * 5)).off + 1, none⟩ = some (.int .i64 n.op) ∧ w'.cell? ⟨(ad.add (a * 5)).block, (ad.add (a * 5)).off + 2, none⟩ = some (.string n.text) ∧ w'.cell? ⟨(ad.add (a * 5)).block, (ad.add (a * 5)).off + 3, none⟩ = some (.int .i64 n.flag) ∧ w'.cell? ⟨(ad.add (a * 5)).block, (ad.add (a * 5)).off + 4, none⟩ = some (.int .i64 n.size))
    (first | with_reducible exact ⟨y0, g0, g1, g2, g3, g4⟩ | with_reducible exact ⟨z0, z1, z2, z3, z4, z5⟩ | with_reducible exact ⟨cell_dr y0, cell_dr g0, cell_dr g1, cell_dr g2, cell_dr g3, cell_dr g4⟩ | with_reducible exact ⟨cell_dr (cell_al _ y0), cell_dr (cell_al _ g0), cell_dr (cell_al _ g1), cell_dr (cell_al _ g2), cell_dr (cell_al _ g3), cell_dr (cell_al _ g4)⟩ | with_reducible exact ⟨cell_al _ (cell_dr y0), cell_al _ (cell_dr g0), cell_al _ (cell_dr g1), cell_al _ (cell_dr g2), cell_al _ (cell_dr g3), cell_al _ (cell_dr g4)⟩ | with_reducible exact ⟨cell_al _ z0, cell_al _ z1, cell_al _ z2, cell_al _ z3, cell_al _ z4, cell_al _ z5⟩ | with_reducible exact ⟨cell_b z0 hgl (set5 _ _ _ _ _ _ _), cell_b z1 hpb (set5 _ _ _ _ _ _ _), cell_b z2 hpb (set5 _ _ _ _ _ _ _), cell_b z3 hpb (set5 _ _ _ _ _ _ _), cell_b z4 hpb (set5 _ _ _ _ _ _ _), cell_b z5 hpb (set5 _ _ _ _ _ _ _)⟩ | with_reducible exact ⟨cell_b (cell_al _ z0) q0 (set5 _ _ _ _ _ _ _), cell_b (cell_al _ z1) qb (set5 _ _ _ _ _ _ _), cell_b (cell_al _ z2) qb (set5 _ _ _ _ _ _ _), cell_b (cell_al _ z3) qb (set5 _ _ _ _ _ _ _), cell_b (cell_al _ z4) qb (set5 _ _ _ _ _ _ _), cell_b (cell_al _ z5) qb (set5 _ _ _ _ _ _ _)⟩ | fail)
    (first
      | (go_at_call 15; refine (HKd.out _ ((Below.refl _ _).alloc (Nat.le_refl _) _).drew).mono ?_; rintro e w2 ⟨v2, rfl, hv2, hB2⟩; have hW2 : Below w.heap.size w w2 := (((Below.refl _ _).alloc (Nat.le_refl _) _).drew).trans (hB2.mono (by simp)); have z0 := cell_below y0 hW2; have z1 := cell_below g0 hW2; have z2 := cell_below g1 hW2; have z3 := cell_below g2 hW2; have z4 := cell_below g3 hW2; have z5 := cell_below g4 hW2; have q0 : gb < w2.heap.size := Nat.lt_of_lt_of_le hgl hW2.size; have qb : (ad.add (a * 5)).block < w2.heap.size := Nat.lt_of_lt_of_le hpb hW2.size; have hbk : Blk w2 w.heap.size 23 #[.int .i64 0, .int .i64 0, .string ⟨#[]⟩, .int .i64 0, .int .i64 0] := ((Blk.new w _ _).drew).later hB2; have m0 : w2.cell? ⟨w.heap.size, 0, none⟩ = some (.int .i64 0) := hbk.cell 0; have m1 : w2.cell? ⟨w.heap.size, 1, none⟩ = some (.int .i64 0) := hbk.cell 1; have m2 : w2.cell? ⟨w.heap.size, 2, none⟩ = some (.string ⟨#[]⟩) := hbk.cell 2; have m3 : w2.cell? ⟨w.heap.size, 3, none⟩ = some (.int .i64 0) := hbk.cell 3; have m4 : w2.cell? ⟨w.heap.size, 4, none⟩ = some (.int .i64 0) := hbk.cell 4; have f0 := hbk.frozen 0; have f1 := hbk.frozen 1; have f2 := hbk.frozen 2; have f3 := hbk.frozen 3; have f4 := hbk.frozen 4)
      | (go_at_call 15; refine (HKd.out _ (Below.refl _ _).drew).mono ?_; rintro e w2 ⟨v2, rfl, hv2, hB2⟩; have hW2 : Below w.heap.size w w2 := ((Below.refl _ _).drew).trans hB2; have z0 := cell_below y0 hW2; have z1 := cell_below g0 hW2; have z2 := cell_below g1 hW2; have z3 := cell_below g2 hW2; have z4 := cell_below g3 hW2; have z5 := cell_below g4 hW2; have q0 : gb < w2.heap.size := Nat.lt_of_lt_of_le hgl hW2.size; have qb : (ad.add (a * 5)).block < w2.heap.size := Nat.lt_of_lt_of_le hpb hW2.size))
  all_goals
    have hcr := cell_below HB.out.core hW2
    have hgr : gb < w.heap.size ∧ gb < w2.heap.size := ⟨hgl, q0⟩
    have HW2 := Lib.hid hW2
    have HS2 := Lib.hid hW2.size
    obtain ⟨⟨A6, c6, hv6, -, -⟩, -⟩ := hv2
    subst hv6
    clear z0 z1 z2 z3 z4 z5 hB2 hW2 y0 g0 g1 g2 g3 g4
    go_wp2_with fail
    go_at_call 16
    have hx5 := set5 w2 w.heap.size (.int .i64 n.kind) (.int .i64 n.op) (.string n.text) (.int .i64 n.flag) (.int .i64 n.size)
    have hxa := cell_al (.cells #[.int .i64 n.kind, .int .i64 n.op, .string n.text, .int .i64 n.flag, .int .i64 n.size] 23) hcr
    have hxs := cell_b hcr hgr.1 hx5
    have HX5 := Lib.hid hx5
    first
      | (with_reducible refine (HLf.out _ hxa).mono ?_
         rintro e w3 ⟨g, rfl, hb3⟩
         have HB3 : Hid (Below w.heap.size w w3) := (HW2.out.alloc HS2.out _).trans (hb3.mono (by rw [World.size_alloc]; exact Nat.le_succ_of_le HS2.out)))
      | (with_reducible refine (HLf.out _ hxs).mono ?_
         rintro e w3 ⟨g, rfl, hb3⟩
         have HB3 : Hid (Below w.heap.size w w3) := (HW2.out.trans HX5.out).trans (hb3.mono (by simp only [World.size_setCell]; exact HS2.out)))
    clear hb3 hx5 hxa hxs hcr
    go_wp2
    go_ret
    exact ⟨g, rfl, HB3.out⟩
end Go.Proofs.Ytionkdlcagikaaa
