/-
  The builder makes nodes with kids. Conditions: none.
-/
import Derived.Test.YtionkdlcagikaaaPrcQ
namespace Go.Proofs.Ytionkdlcagikaaa
open Go.RowKit
set_option linter.unusedVariables false
set_option linter.unusedSimpArgs false

/-- The row of a node's kids. -/
def KidsRow (w : World) (gp : Nat) (v : Value) (K : List Nat) : Prop := Places w v K ∧ ∀ (ad : Addr) (n c : Nat), v = .slice (some ad) n c → ad.block ≠ gp
theorem KidsRow.below {w w' : World} {gp : Nat} {v : Value} {K : List Nat} (h : KidsRow w gp v K) (hb : Below w.heap.size w w') : KidsRow w' gp v K := ⟨h.1.below hb, h.2⟩
def BothOf (base gb gp c : Nat) (A : Option Addr) (T : List Nd) (n : Nd) (K : List Nat) (t : TypeId) (Q : World → Nat → Prop) : Prop :=
  ∀ (w : World) (v : Value), BldP w base gb gp A c T → KidsRow w gp v K → Calls Try.prog 18 #[.pointer (some ⟨gb, 0, none⟩), aggN n, v] w (NodeTo base gb gp c A T t Q w)
def SugarOf (base gb gp c : Nat) (A : Option Addr) (T : List Nd) (n : Nd) (K : List Nat) (t : TypeId) (Q : World → Nat → Prop) : Prop :=
  ∀ (w : World) (v : Value), BldP w base gb gp A c T → KidsRow w gp v K → Calls Try.prog 20 #[.pointer (some ⟨gb, 0, none⟩), aggN n, v] w (NodeTo base gb gp c A T t Q w)
def LeafNil (gb : Nat) (n : Nd) : Prop := ∀ w : World, Calls Try.prog 16 #[.pointer (some ⟨gb, 0, none⟩), aggN n] w (NilTo w)
def BothNil (gb : Nat) (n : Nd) : Prop := ∀ (w : World) (v : Value), Calls Try.prog 18 #[.pointer (some ⟨gb, 0, none⟩), aggN n, v] w (NilTo w)
theorem places_set5 {w : World} {B : Nat} {a b c d e v : Value} {K : List Nat} (h : Places w v K) (hn : ∀ (ad : Addr) (n c : Nat), v = .slice (some ad) n c → ad.block ≠ B) : Places (((((w.setCell ⟨B, 0, none⟩ a).setCell ⟨B, 1, none⟩ b).setCell ⟨B, 2, none⟩ c).setCell ⟨B, 3, none⟩ d).setCell ⟨B, 4, none⟩ e) v K := by
  obtain ⟨A, c', e', hc, hr⟩ := h
  refine ⟨A, c', e', hc, hr.1, fun hl => ?_⟩
  obtain ⟨ad, rfl, hb, hcell⟩ := hr.2 hl
  refine ⟨ad, rfl, by simpa only [World.size_setCell] using hb, fun j u hu => ?_⟩
  rw [set5_far w B a b c d e (by rw [block_of_add]; exact hn ad _ _ e')]
  exact hcell j u hu
set_option maxRecDepth 100000 in
set_option maxHeartbeats 1000000 in
theorem made_both (base gb gp c : Nat) (A : Option Addr) (T : List Nd) (a : Nat) (n : Nd) (K : List Nat) (t : TypeId) (Q : World → Nat → Prop) (w : World) (h : BldP w base gb gp A c T) (hF : Fit T) (hn : T[a]? = some n) (hk : kidsOf T a = K) (hlf : LeafNil gb n) (hbo : BothOf base gb gp c A T n K t Q) :
    Calls Try.prog 14 #[.pointer (some ⟨gb, 0, none⟩), .int .i64 a] w (NodeTo base gb gp c A T t Q w) := by
  have HP := Lib.hid h
  have HF := Lib.hid hF
  have HLf : Hid (∀ w : World, Calls Try.prog 16 #[.pointer (some ⟨gb, 0, none⟩), .agg #[.int .i64 n.kind, .int .i64 n.op, .string n.text, .int .i64 n.flag, .int .i64 n.size]] w (NilTo w)) := hlf
  have HBo : Hid (∀ (w : World) (v : Value), BldP w base gb gp A c T → KidsRow w gp v K → Calls Try.prog 18 #[.pointer (some ⟨gb, 0, none⟩), .agg #[.int .i64 n.kind, .int .i64 n.op, .string n.text, .int .i64 n.flag, .int .i64 n.size], v] w (NodeTo base gb gp c A T t Q w)) := hbo
  clear hbo
  have ha := (List.getElem?_eq_some_iff.1 hn).1
  have hgl : gb < w.heap.size := h.2.2.2.1.lt
  have hgpl : gp < w.heap.size := by obtain ⟨_, _, _, _, ps, h5, _⟩ := h; exact h5.lt
  have HGP := Lib.hid hgpl
  have y0 : w.cell? ⟨gb, 0, none⟩ = some (.slice A T.length c) := h.row
  have hbg : base ≤ w.heap.size := by have := h.1; omega
  obtain ⟨ad, rfl, hab, g0, g1, g2, g3, g4⟩ := (h.2.2.1.more hbg).node hn
  have a0 : (0 : Int) ≤ (a : Int) := by omega
  have a1 : (a : Int) < (T.length : Int) := by omega
  have HKd : Hid (∀ w1, Below w.heap.size w w1 → Calls Try.prog 15 #[.pointer (some ⟨gb, 0, none⟩), .int .i64 a] w1 (PlacesTo w1 K)) := fun w1 h1 => by
    have := kids_any base gb c (some ad) T a w1 (HP.out.below h1).bld HF.out ha
    rw [hk] at this
    exact this
  have hpb : (ad.add (a * 5)).block < w.heap.size := by rw [block_of_add]; exact hab
  clear hF hlf hn hk h hbg hab hgpl
  go_enter Try.func14, Try.ntmps14
  go_wp2_with fail
  go_region_held3 (fun w' => w'.cell? ⟨gb, 0, none⟩ = some (.slice (some ad) T.length c) ∧ w'.cell? (ad.add (a * 5)) = some (.int .i64 n.kind) ∧ w'.cell? ⟨(ad.add (a * 5)).block, (ad.add (a * 5)).off + 1, none⟩ = some (.int .i64 n.op) ∧ w'.cell? ⟨(ad.add (a * 5)).block, (ad.add (a * 5)).off + 2, none⟩ = some (.string n.text) ∧ w'.cell? ⟨(ad.add (a * 5)).block, (ad.add (a * 5)).off + 3, none⟩ = some (.int .i64 n.flag) ∧ w'.cell? ⟨(ad.add (a * 5)).block, (ad.add (a * 5)).off + 4, none⟩ = some (.int .i64 n.size))
    (first | with_reducible exact ⟨y0, g0, g1, g2, g3, g4⟩ | with_reducible exact ⟨z0, z1, z2, z3, z4, z5⟩ | with_reducible exact ⟨cell_dr y0, cell_dr g0, cell_dr g1, cell_dr g2, cell_dr g3, cell_dr g4⟩ | with_reducible exact ⟨cell_dr (cell_al _ y0), cell_dr (cell_al _ g0), cell_dr (cell_al _ g1), cell_dr (cell_al _ g2), cell_dr (cell_al _ g3), cell_dr (cell_al _ g4)⟩ | with_reducible exact ⟨cell_al _ (cell_dr y0), cell_al _ (cell_dr g0), cell_al _ (cell_dr g1), cell_al _ (cell_dr g2), cell_al _ (cell_dr g3), cell_al _ (cell_dr g4)⟩ | with_reducible exact ⟨cell_al _ z0, cell_al _ z1, cell_al _ z2, cell_al _ z3, cell_al _ z4, cell_al _ z5⟩ | with_reducible exact ⟨cell_b z0 hgl (set5 _ _ _ _ _ _ _), cell_b z1 hpb (set5 _ _ _ _ _ _ _), cell_b z2 hpb (set5 _ _ _ _ _ _ _), cell_b z3 hpb (set5 _ _ _ _ _ _ _), cell_b z4 hpb (set5 _ _ _ _ _ _ _), cell_b z5 hpb (set5 _ _ _ _ _ _ _)⟩ | with_reducible exact ⟨cell_b (cell_al _ z0) q0 (set5 _ _ _ _ _ _ _), cell_b (cell_al _ z1) qb (set5 _ _ _ _ _ _ _), cell_b (cell_al _ z2) qb (set5 _ _ _ _ _ _ _), cell_b (cell_al _ z3) qb (set5 _ _ _ _ _ _ _), cell_b (cell_al _ z4) qb (set5 _ _ _ _ _ _ _), cell_b (cell_al _ z5) qb (set5 _ _ _ _ _ _ _)⟩ | fail)
    (first
      | (go_at_call 15; refine (HKd.out _ ((Below.refl _ _).alloc (Nat.le_refl _) _).drew).mono ?_; rintro e w2 ⟨v2, rfl, hv2, hB2⟩; have hW2 : Below w.heap.size w w2 := (((Below.refl _ _).alloc (Nat.le_refl _) _).drew).trans (hB2.mono (by simp)); have z0 := cell_below y0 hW2; have z1 := cell_below g0 hW2; have z2 := cell_below g1 hW2; have z3 := cell_below g2 hW2; have z4 := cell_below g3 hW2; have z5 := cell_below g4 hW2; have q0 : gb < w2.heap.size := Nat.lt_of_lt_of_le hgl hW2.size; have qb : (ad.add (a * 5)).block < w2.heap.size := Nat.lt_of_lt_of_le hpb hW2.size; have hbk : Blk w2 w.heap.size 23 #[.int .i64 0, .int .i64 0, .string ⟨#[]⟩, .int .i64 0, .int .i64 0] := ((Blk.new w _ _).drew).later hB2; have HBK := Lib.hid hbk; have m0 : w2.cell? ⟨w.heap.size, 0, none⟩ = some (.int .i64 0) := hbk.cell 0; have m1 : w2.cell? ⟨w.heap.size, 1, none⟩ = some (.int .i64 0) := hbk.cell 1; have m2 : w2.cell? ⟨w.heap.size, 2, none⟩ = some (.string ⟨#[]⟩) := hbk.cell 2; have m3 : w2.cell? ⟨w.heap.size, 3, none⟩ = some (.int .i64 0) := hbk.cell 3; have m4 : w2.cell? ⟨w.heap.size, 4, none⟩ = some (.int .i64 0) := hbk.cell 4; have f0 := hbk.frozen 0; have f1 := hbk.frozen 1; have f2 := hbk.frozen 2; have f3 := hbk.frozen 3; have f4 := hbk.frozen 4)
      | (go_at_call 15; refine (HKd.out _ (Below.refl _ _).drew).mono ?_; rintro e w2 ⟨v2, rfl, hv2, hB2⟩; have hW2 : Below w.heap.size w w2 := ((Below.refl _ _).drew).trans hB2; have z0 := cell_below y0 hW2; have z1 := cell_below g0 hW2; have z2 := cell_below g1 hW2; have z3 := cell_below g2 hW2; have z4 := cell_below g3 hW2; have z5 := cell_below g4 hW2; have q0 : gb < w2.heap.size := Nat.lt_of_lt_of_le hgl hW2.size; have qb : (ad.add (a * 5)).block < w2.heap.size := Nat.lt_of_lt_of_le hpb hW2.size))
  all_goals
    have hrow0 : Places w2 v2 K ∧ ∀ (ad : Addr) (n c : Nat), v2 = .slice (some ad) n c → w.heap.size ≤ ad.block := ⟨hv2.1, fun a1 a2 a3 a4 => Nat.le_trans (by simp) (hv2.2 a1 a2 a3 a4)⟩
    first
      | (have hN : Blk (((((w2.setCell ⟨w.heap.size, 0, none⟩ (.int .i64 n.kind)).setCell ⟨w.heap.size, 1, none⟩ (.int .i64 n.op)).setCell ⟨w.heap.size, 2, none⟩ (.string n.text)).setCell ⟨w.heap.size, 3, none⟩ (.int .i64 n.flag)).setCell ⟨w.heap.size, 4, none⟩ (.int .i64 n.size)) w.heap.size 23 #[.int .i64 n.kind, .int .i64 n.op, .string n.text, .int .i64 n.flag, .int .i64 n.size] := ((((HBK.out.set_ 0 (.int .i64 n.kind)).set_ 1 (.int .i64 n.op)).set_ 2 (.string n.text)).set_ 3 (.int .i64 n.flag)).set_ 4 (.int .i64 n.size)
         have hBW := hW2.trans (set5 w2 w.heap.size (.int .i64 n.kind) (.int .i64 n.op) (.string n.text) (.int .i64 n.flag) (.int .i64 n.size))
         have hRow : KidsRow (((((w2.setCell ⟨w.heap.size, 0, none⟩ (.int .i64 n.kind)).setCell ⟨w.heap.size, 1, none⟩ (.int .i64 n.op)).setCell ⟨w.heap.size, 2, none⟩ (.string n.text)).setCell ⟨w.heap.size, 3, none⟩ (.int .i64 n.flag)).setCell ⟨w.heap.size, 4, none⟩ (.int .i64 n.size)) gp v2 K := ⟨places_set5 hrow0.1 (fun b1 b2 b3 b4 => by
           have h9 : (w.alloc (.cells #[.int .i64 0, .int .i64 0, .string ⟨#[]⟩, .int .i64 0, .int .i64 0] 23)).heap.size ≤ b1.block := hv2.2 b1 b2 b3 b4
           rw [World.size_alloc] at h9
           omega), fun b1 b2 b3 b4 => by have := hrow0.2 b1 b2 b3 b4; have := HGP.out; omega⟩
         generalize hWB : World.setCell _ ⟨w.heap.size, 4, none⟩ _ = W3 at hN hBW hRow ⊢
         generalize hg5 : w.heap.size = g5 at hN ⊢)
      | (have hN := Blk.new w2 23 #[.int .i64 n.kind, .int .i64 n.op, .string n.text, .int .i64 n.flag, .int .i64 n.size]
         have hBW := hW2.alloc hW2.size (.cells #[.int .i64 n.kind, .int .i64 n.op, .string n.text, .int .i64 n.flag, .int .i64 n.size] 23)
         have hRow : KidsRow (w2.alloc (.cells #[.int .i64 n.kind, .int .i64 n.op, .string n.text, .int .i64 n.flag, .int .i64 n.size] 23)) gp v2 K := ⟨hrow0.1.below ((Below.refl _ _).alloc (Nat.le_refl _) _), fun b1 b2 b3 b4 => by have := hrow0.2 b1 b2 b3 b4; have := HGP.out; omega⟩
         generalize hWA : w2.alloc _ = W3 at hN hBW hRow ⊢
         generalize hg5 : w2.heap.size = g5 at hN ⊢)
    have HP3 := Lib.hid (HP.out.below hBW)
    have HN3 := Lib.hid hN
    have HBW := Lib.hid hBW
    have HR3 := Lib.hid hRow
    have n0 := hN.cell 0
    have n1 := hN.cell 1
    have n2 := hN.cell 2
    have n3 := hN.cell 3
    have n4 := hN.cell 4
    clear hN hBW hRow hrow0 hv2 hW2 hB2 z0 z1 z2 z3 z4 z5 y0 g0 g1 g2 g3 g4 q0 qb hpb hgl a0 a1
    go_wp2_with (first
      | (go_at_call 18; refine (HBo.out _ _ HP4.out HR4.out).mono ?_; rintro e w5 ⟨g, rfl, hb5, hB5, hq5⟩; have HB5 := Lib.hid hB5; have HBe5 := Lib.hid hb5; have HQ5 := Lib.hid hq5; clear hb5 hB5 hq5)
      | (go_at_call 16; refine (HLf.out _).mono ?_; rintro e w4 ⟨rfl, hb4⟩; have hN4 := HN3.out.later hb4; have HN4 := Lib.hid hN4; have HP4 := Lib.hid (HP3.out.below hb4); have HR4 := Lib.hid (HR3.out.below hb4); have HBW4 := Lib.hid (HBW.out.trans (hb4.mono HBW.out.size)); have p0 := hN4.cell 0; have p1 := hN4.cell 1; have p2 := hN4.cell 2; have p3 := hN4.cell 3; have p4 := hN4.cell 4; clear hN4 hb4))
    go_ret
    exact ⟨_, rfl, (But.of_below HBW4.out (Nat.le_refl _) _).trans HBe5.out, HB5.out, HQ5.out⟩
set_option maxRecDepth 100000 in
set_option maxHeartbeats 1000000 in
theorem made_sugar (base gb gp c : Nat) (A : Option Addr) (T : List Nd) (a : Nat) (n : Nd) (K : List Nat) (t : TypeId) (Q : World → Nat → Prop) (w : World) (h : BldP w base gb gp A c T) (hF : Fit T) (hn : T[a]? = some n) (hk : kidsOf T a = K) (hlf : LeafNil gb n) (hbn : BothNil gb n) (hsu : SugarOf base gb gp c A T n K t Q) :
    Calls Try.prog 14 #[.pointer (some ⟨gb, 0, none⟩), .int .i64 a] w (NodeTo base gb gp c A T t Q w) := by
  have HP := Lib.hid h
  have HF := Lib.hid hF
  have HLf : Hid (∀ w : World, Calls Try.prog 16 #[.pointer (some ⟨gb, 0, none⟩), .agg #[.int .i64 n.kind, .int .i64 n.op, .string n.text, .int .i64 n.flag, .int .i64 n.size]] w (NilTo w)) := hlf
  have HSu : Hid (∀ (w : World) (v : Value), BldP w base gb gp A c T → KidsRow w gp v K → Calls Try.prog 20 #[.pointer (some ⟨gb, 0, none⟩), .agg #[.int .i64 n.kind, .int .i64 n.op, .string n.text, .int .i64 n.flag, .int .i64 n.size], v] w (NodeTo base gb gp c A T t Q w)) := hsu
  have HBn : Hid (∀ (w : World) (v : Value), Calls Try.prog 18 #[.pointer (some ⟨gb, 0, none⟩), .agg #[.int .i64 n.kind, .int .i64 n.op, .string n.text, .int .i64 n.flag, .int .i64 n.size], v] w (NilTo w)) := hbn
  clear hsu hbn
  have ha := (List.getElem?_eq_some_iff.1 hn).1
  have hgl : gb < w.heap.size := h.2.2.2.1.lt
  have hgpl : gp < w.heap.size := by obtain ⟨_, _, _, _, ps, h5, _⟩ := h; exact h5.lt
  have HGP := Lib.hid hgpl
  have y0 : w.cell? ⟨gb, 0, none⟩ = some (.slice A T.length c) := h.row
  have hbg : base ≤ w.heap.size := by have := h.1; omega
  obtain ⟨ad, rfl, hab, g0, g1, g2, g3, g4⟩ := (h.2.2.1.more hbg).node hn
  have a0 : (0 : Int) ≤ (a : Int) := by omega
  have a1 : (a : Int) < (T.length : Int) := by omega
  have HKd : Hid (∀ w1, Below w.heap.size w w1 → Calls Try.prog 15 #[.pointer (some ⟨gb, 0, none⟩), .int .i64 a] w1 (PlacesTo w1 K)) := fun w1 h1 => by
    have := kids_any base gb c (some ad) T a w1 (HP.out.below h1).bld HF.out ha
    rw [hk] at this
    exact this
  have hpb : (ad.add (a * 5)).block < w.heap.size := by rw [block_of_add]; exact hab
  clear hF hlf hn hk h hbg hab hgpl
  go_enter Try.func14, Try.ntmps14
  go_wp2_with fail
  go_region_held3 (fun w' => w'.cell? ⟨gb, 0, none⟩ = some (.slice (some ad) T.length c) ∧ w'.cell? (ad.add (a * 5)) = some (.int .i64 n.kind) ∧ w'.cell? ⟨(ad.add (a * 5)).block, (ad.add (a * 5)).off + 1, none⟩ = some (.int .i64 n.op) ∧ w'.cell? ⟨(ad.add (a * 5)).block, (ad.add (a * 5)).off + 2, none⟩ = some (.string n.text) ∧ w'.cell? ⟨(ad.add (a * 5)).block, (ad.add (a * 5)).off + 3, none⟩ = some (.int .i64 n.flag) ∧ w'.cell? ⟨(ad.add (a * 5)).block, (ad.add (a * 5)).off + 4, none⟩ = some (.int .i64 n.size))
    (first | with_reducible exact ⟨y0, g0, g1, g2, g3, g4⟩ | with_reducible exact ⟨z0, z1, z2, z3, z4, z5⟩ | with_reducible exact ⟨cell_dr y0, cell_dr g0, cell_dr g1, cell_dr g2, cell_dr g3, cell_dr g4⟩ | with_reducible exact ⟨cell_dr (cell_al _ y0), cell_dr (cell_al _ g0), cell_dr (cell_al _ g1), cell_dr (cell_al _ g2), cell_dr (cell_al _ g3), cell_dr (cell_al _ g4)⟩ | with_reducible exact ⟨cell_al _ (cell_dr y0), cell_al _ (cell_dr g0), cell_al _ (cell_dr g1), cell_al _ (cell_dr g2), cell_al _ (cell_dr g3), cell_al _ (cell_dr g4)⟩ | with_reducible exact ⟨cell_al _ z0, cell_al _ z1, cell_al _ z2, cell_al _ z3, cell_al _ z4, cell_al _ z5⟩ | with_reducible exact ⟨cell_b z0 hgl (set5 _ _ _ _ _ _ _), cell_b z1 hpb (set5 _ _ _ _ _ _ _), cell_b z2 hpb (set5 _ _ _ _ _ _ _), cell_b z3 hpb (set5 _ _ _ _ _ _ _), cell_b z4 hpb (set5 _ _ _ _ _ _ _), cell_b z5 hpb (set5 _ _ _ _ _ _ _)⟩ | with_reducible exact ⟨cell_b (cell_al _ z0) q0 (set5 _ _ _ _ _ _ _), cell_b (cell_al _ z1) qb (set5 _ _ _ _ _ _ _), cell_b (cell_al _ z2) qb (set5 _ _ _ _ _ _ _), cell_b (cell_al _ z3) qb (set5 _ _ _ _ _ _ _), cell_b (cell_al _ z4) qb (set5 _ _ _ _ _ _ _), cell_b (cell_al _ z5) qb (set5 _ _ _ _ _ _ _)⟩ | fail)
    (first
      | (go_at_call 15; refine (HKd.out _ ((Below.refl _ _).alloc (Nat.le_refl _) _).drew).mono ?_; rintro e w2 ⟨v2, rfl, hv2, hB2⟩; have hW2 : Below w.heap.size w w2 := (((Below.refl _ _).alloc (Nat.le_refl _) _).drew).trans (hB2.mono (by simp)); have z0 := cell_below y0 hW2; have z1 := cell_below g0 hW2; have z2 := cell_below g1 hW2; have z3 := cell_below g2 hW2; have z4 := cell_below g3 hW2; have z5 := cell_below g4 hW2; have q0 : gb < w2.heap.size := Nat.lt_of_lt_of_le hgl hW2.size; have qb : (ad.add (a * 5)).block < w2.heap.size := Nat.lt_of_lt_of_le hpb hW2.size; have hbk : Blk w2 w.heap.size 23 #[.int .i64 0, .int .i64 0, .string ⟨#[]⟩, .int .i64 0, .int .i64 0] := ((Blk.new w _ _).drew).later hB2; have HBK := Lib.hid hbk; have m0 : w2.cell? ⟨w.heap.size, 0, none⟩ = some (.int .i64 0) := hbk.cell 0; have m1 : w2.cell? ⟨w.heap.size, 1, none⟩ = some (.int .i64 0) := hbk.cell 1; have m2 : w2.cell? ⟨w.heap.size, 2, none⟩ = some (.string ⟨#[]⟩) := hbk.cell 2; have m3 : w2.cell? ⟨w.heap.size, 3, none⟩ = some (.int .i64 0) := hbk.cell 3; have m4 : w2.cell? ⟨w.heap.size, 4, none⟩ = some (.int .i64 0) := hbk.cell 4; have f0 := hbk.frozen 0; have f1 := hbk.frozen 1; have f2 := hbk.frozen 2; have f3 := hbk.frozen 3; have f4 := hbk.frozen 4)
      | (go_at_call 15; refine (HKd.out _ (Below.refl _ _).drew).mono ?_; rintro e w2 ⟨v2, rfl, hv2, hB2⟩; have hW2 : Below w.heap.size w w2 := ((Below.refl _ _).drew).trans hB2; have z0 := cell_below y0 hW2; have z1 := cell_below g0 hW2; have z2 := cell_below g1 hW2; have z3 := cell_below g2 hW2; have z4 := cell_below g3 hW2; have z5 := cell_below g4 hW2; have q0 : gb < w2.heap.size := Nat.lt_of_lt_of_le hgl hW2.size; have qb : (ad.add (a * 5)).block < w2.heap.size := Nat.lt_of_lt_of_le hpb hW2.size))
  all_goals
    have hrow0 : Places w2 v2 K ∧ ∀ (ad : Addr) (n c : Nat), v2 = .slice (some ad) n c → w.heap.size ≤ ad.block := ⟨hv2.1, fun a1 a2 a3 a4 => Nat.le_trans (by simp) (hv2.2 a1 a2 a3 a4)⟩
    first
      | (have hN : Blk (((((w2.setCell ⟨w.heap.size, 0, none⟩ (.int .i64 n.kind)).setCell ⟨w.heap.size, 1, none⟩ (.int .i64 n.op)).setCell ⟨w.heap.size, 2, none⟩ (.string n.text)).setCell ⟨w.heap.size, 3, none⟩ (.int .i64 n.flag)).setCell ⟨w.heap.size, 4, none⟩ (.int .i64 n.size)) w.heap.size 23 #[.int .i64 n.kind, .int .i64 n.op, .string n.text, .int .i64 n.flag, .int .i64 n.size] := ((((HBK.out.set_ 0 (.int .i64 n.kind)).set_ 1 (.int .i64 n.op)).set_ 2 (.string n.text)).set_ 3 (.int .i64 n.flag)).set_ 4 (.int .i64 n.size)
         have hBW := hW2.trans (set5 w2 w.heap.size (.int .i64 n.kind) (.int .i64 n.op) (.string n.text) (.int .i64 n.flag) (.int .i64 n.size))
         have hRow : KidsRow (((((w2.setCell ⟨w.heap.size, 0, none⟩ (.int .i64 n.kind)).setCell ⟨w.heap.size, 1, none⟩ (.int .i64 n.op)).setCell ⟨w.heap.size, 2, none⟩ (.string n.text)).setCell ⟨w.heap.size, 3, none⟩ (.int .i64 n.flag)).setCell ⟨w.heap.size, 4, none⟩ (.int .i64 n.size)) gp v2 K := ⟨places_set5 hrow0.1 (fun b1 b2 b3 b4 => by
           have h9 : (w.alloc (.cells #[.int .i64 0, .int .i64 0, .string ⟨#[]⟩, .int .i64 0, .int .i64 0] 23)).heap.size ≤ b1.block := hv2.2 b1 b2 b3 b4
           rw [World.size_alloc] at h9
           omega), fun b1 b2 b3 b4 => by have := hrow0.2 b1 b2 b3 b4; have := HGP.out; omega⟩
         generalize hWB : World.setCell _ ⟨w.heap.size, 4, none⟩ _ = W3 at hN hBW hRow ⊢
         generalize hg5 : w.heap.size = g5 at hN ⊢)
      | (have hN := Blk.new w2 23 #[.int .i64 n.kind, .int .i64 n.op, .string n.text, .int .i64 n.flag, .int .i64 n.size]
         have hBW := hW2.alloc hW2.size (.cells #[.int .i64 n.kind, .int .i64 n.op, .string n.text, .int .i64 n.flag, .int .i64 n.size] 23)
         have hRow : KidsRow (w2.alloc (.cells #[.int .i64 n.kind, .int .i64 n.op, .string n.text, .int .i64 n.flag, .int .i64 n.size] 23)) gp v2 K := ⟨hrow0.1.below ((Below.refl _ _).alloc (Nat.le_refl _) _), fun b1 b2 b3 b4 => by have := hrow0.2 b1 b2 b3 b4; have := HGP.out; omega⟩
         generalize hWA : w2.alloc _ = W3 at hN hBW hRow ⊢
         generalize hg5 : w2.heap.size = g5 at hN ⊢)
    have HP3 := Lib.hid (HP.out.below hBW)
    have HN3 := Lib.hid hN
    have HBW := Lib.hid hBW
    have HR3 := Lib.hid hRow
    have n0 := hN.cell 0
    have n1 := hN.cell 1
    have n2 := hN.cell 2
    have n3 := hN.cell 3
    have n4 := hN.cell 4
    clear hN hBW hRow hrow0 hv2 hW2 hB2 z0 z1 z2 z3 z4 z5 y0 g0 g1 g2 g3 g4 q0 qb hpb hgl a0 a1
    go_wp2_with (first
      | (go_at_call 20; refine (HSu.out _ _ HP5.out HR5.out).mono ?_; rintro e w6 ⟨g, rfl, hb6, hB6, hq6⟩; have HB6 := Lib.hid hB6; have HBe6 := Lib.hid hb6; have HQ6 := Lib.hid hq6; clear hb6 hB6 hq6)
      | (go_at_call 18; refine (HBn.out _ _).mono ?_; rintro e w5 ⟨rfl, hb5⟩; have hN5 := HN4.out.later hb5; have HP5 := Lib.hid (HP4.out.below hb5); have HR5 := Lib.hid (HR4.out.below hb5); have HBW5 := Lib.hid (HBW4.out.trans (hb5.mono HBW4.out.size)); have r0 := hN5.cell 0; have r1 := hN5.cell 1; have r2 := hN5.cell 2; have r3 := hN5.cell 3; have r4 := hN5.cell 4; have rc := HP5.out.bld.core; clear hN5 hb5)
      | (go_at_call 16; refine (HLf.out _).mono ?_; rintro e w4 ⟨rfl, hb4⟩; have hN4 := HN3.out.later hb4; have HN4 := Lib.hid hN4; have HP4 := Lib.hid (HP3.out.below hb4); have HR4 := Lib.hid (HR3.out.below hb4); have HBW4 := Lib.hid (HBW.out.trans (hb4.mono HBW.out.size)); have p0 := hN4.cell 0; have p1 := hN4.cell 1; have p2 := hN4.cell 2; have p3 := hN4.cell 3; have p4 := hN4.cell 4; clear hN4 hb4))
    go_ret
    exact ⟨_, rfl, (But.of_below HBW5.out (Nat.le_refl _) _).trans HBe6.out, HB6.out, HQ6.out⟩
end Go.Proofs.Ytionkdlcagikaaa
