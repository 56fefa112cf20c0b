/-
  Nodes with two kids. Conditions: none.
-/
import Derived.Test.YtionkdlcagikaaaPrcL
namespace Go.Proofs.Ytionkdlcagikaaa
open Go.RowKit
set_option linter.unusedVariables false
set_option linter.unusedSimpArgs false

theorem BldP.drew {w : World} {base gb gp c : Nat} {A : Option Addr} {T : List Nd} (h : BldP w base gb gp A c T) : BldP w.drew base gb gp A c T := h.below (Below.refl _ _).drew
theorem cell_bt {gp : Nat} {w w' : World} {p : Addr} {v : Value} (h : w.cell? p = some v) (hb : But (fun k => k = gp) w w') (hl : p.block < w.heap.size) (hn : p.block ≠ gp) : w'.cell? p = some v := (hb.cell hl hn).trans h
set_option maxRecDepth 100000 in
set_option maxHeartbeats 500000 in
theorem both_idx (base gb gp c : Nat) (A : Option Addr) (T : List Nd) (op : Int) (s : ByteArray) (fl sz : Int) (p q : Nat) (t t' : TypeId) (ad : Addr) (c7 : Nat) (w : World) (h : BldP w base gb gp A c T) (hl : ad.block < w.heap.size) (hn : ad.block ≠ gp)
    (hp : w.cell? ad = some (.int .i64 p)) (hp' : w.cell? ⟨ad.block, ad.off + 1, none⟩ = some (.int .i64 q)) (hk : NodeOf base gb gp c A T p t) (hk' : NodeOf base gb gp c A T q t') :
    Calls Try.prog 18 #[.pointer (some ⟨gb, 0, none⟩), .agg #[.int .i64 15, .int .i64 op, .string s, .int .i64 fl, .int .i64 sz], .slice (some ad) 2 c7] w (NodeTo base gb gp c A T 49 (fun _ _ => True) w) := by
  have HB := Lib.hid h
  have HK : Hid (∀ w1 : World, BldP w1 base gb gp A c T → Calls Try.prog 12 #[.pointer (some ⟨gb, 0, none⟩), .int .i64 p] w1 (NodeTo base gb gp c A T t (fun _ _ => True) w1)) := hk
  have HK' : Hid (∀ w1 : World, BldP w1 base gb gp A c T → Calls Try.prog 12 #[.pointer (some ⟨gb, 0, none⟩), .int .i64 q] w1 (NodeTo base gb gp c A T t' (fun _ _ => True) w1)) := hk'
  have y0 := cell_al (.cells #[.int .i64 15, .int .i64 op, .string s, .int .i64 fl, .int .i64 sz] 23) hp
  have y1 := cell_al (.cells #[.int .i64 15, .int .i64 op, .string s, .int .i64 fl, .int .i64 sz] 23) hp'
  have hl1 : ad.block < (w.alloc (.cells #[.int .i64 15, .int .i64 op, .string s, .int .i64 fl, .int .i64 sz] 23)).drew.heap.size := Nat.lt_of_lt_of_le hl ((Below.refl w.heap.size w).alloc (Nat.le_refl _) _).size
  have HN := Lib.hid hn
  have HL1 := Lib.hid hl1
  clear h hk hk' hp hp' hn hl1 hl
  go_enter Try.func18, Try.ntmps18
  go_wp2_with (go_at_call 22; refine (count_any gb _ 2 _ 2 2 (by omega) (by omega) _).mono ?_; rintro e w' ⟨rfl, rfl⟩)
  go_region_held3 (fun w' => w'.cell? ad = some (.int .i64 p) ∧ w'.cell? ⟨ad.block, ad.off + 1, none⟩ = some (.int .i64 q))
    (first | with_reducible exact ⟨y0, y1⟩ | with_reducible exact ⟨cell_dr y0, cell_dr y1⟩ | with_reducible exact ⟨z0, z1⟩ | with_reducible exact ⟨x0, x1⟩ | with_reducible exact ⟨cell_al _ x0, cell_al _ x1⟩ | fail)
    (first
      | (go_at_call 12; refine (HK'.out _ HB2.out).mono ?_; rintro e w3 ⟨g3, rfl, hb3, hB3, hq3⟩; have HB3 := Lib.hid hB3; have HBe3 := Lib.hid hb3; have x0 := cell_bt z0 hb3 HL2.out HN.out; have x1 := cell_bt z1 hb3 HL2.out HN.out; clear hb3 hB3 hq3)
      | (go_at_call 12; refine (HK.out _ ((HB.out.alloc _).drew)).mono ?_; rintro e w2 ⟨g2, rfl, hb2, hB2, hq2⟩; have HB2 := Lib.hid hB2; have HBe2 := Lib.hid hb2; have z0 := cell_bt (cell_dr y0) hb2 HL1.out HN.out; have z1 := cell_bt (cell_dr y1) hb2 HL1.out HN.out; have HL2 := Lib.hid (Nat.lt_of_lt_of_le HL1.out hb2.size); clear hb2 hB2 hq2))
  all_goals
    go_wp2
    go_ret
    exact ⟨_, rfl, (((((But.refl _ w).alloc _).drew).trans HBe2.out).trans HBe3.out).alloc _, HB3.out.alloc _, trivial⟩
set_option maxRecDepth 100000 in
set_option maxHeartbeats 500000 in
theorem cond_any (base gb gp c : Nat) (A : Option Addr) (T : List Nd) (p q : Nat) (t t' : TypeId) (ad : Addr) (c7 : Nat) (w : World) (h : BldP w base gb gp A c T) (hl : ad.block < w.heap.size) (hn : ad.block ≠ gp)
    (hp : w.cell? ad = some (.int .i64 p)) (hp' : w.cell? ⟨ad.block, ad.off + 1, none⟩ = some (.int .i64 q)) (hk : NodeOf base gb gp c A T p t) (hk' : NodeOf base gb gp c A T q t') :
    Calls Try.prog 27 #[.pointer (some ⟨gb, 0, none⟩), .slice (some ad) 2 c7] w (NodeTo base gb gp c A T 78 (fun _ _ => True) w) := by
  have HB := Lib.hid h
  have yc := h.bld.core
  have HK : Hid (∀ w1 : World, BldP w1 base gb gp A c T → Calls Try.prog 12 #[.pointer (some ⟨gb, 0, none⟩), .int .i64 p] w1 (NodeTo base gb gp c A T t (fun _ _ => True) w1)) := hk
  have HK' : Hid (∀ w1 : World, BldP w1 base gb gp A c T → Calls Try.prog 12 #[.pointer (some ⟨gb, 0, none⟩), .int .i64 q] w1 (NodeTo base gb gp c A T t' (fun _ _ => True) w1)) := hk'
  have y0 := hp
  have y1 := hp'
  have hl1 : ad.block < w.drew.heap.size := hl
  have HN := Lib.hid hn
  have HL1 := Lib.hid hl1
  clear h hk hk' hp hp' hn hl1 hl
  go_enter Try.func27, Try.ntmps27
  go_wp2_with (go_at_call 22; refine (count_any gb _ 2 _ 2 3 (by omega) (by omega) _).mono ?_; rintro e w' ⟨rfl, rfl⟩)
  go_region_held3 (fun w' => w'.cell? ad = some (.int .i64 p) ∧ w'.cell? ⟨ad.block, ad.off + 1, none⟩ = some (.int .i64 q))
    (first | with_reducible exact ⟨y0, y1⟩ | with_reducible exact ⟨cell_dr y0, cell_dr y1⟩ | with_reducible exact ⟨z0, z1⟩ | with_reducible exact ⟨x0, x1⟩ | with_reducible exact ⟨cell_al _ x0, cell_al _ x1⟩ | fail)
    (first
      | (go_at_call 12; refine (HK'.out _ HB2.out).mono ?_; rintro e w3 ⟨g3, rfl, hb3, hB3, hq3⟩; have HB3 := Lib.hid hB3; have HBe3 := Lib.hid hb3; have x0 := cell_bt z0 hb3 HL2.out HN.out; have x1 := cell_bt z1 hb3 HL2.out HN.out; clear hb3 hB3 hq3)
      | (go_at_call 12; refine (HK.out _ (HB.out.drew)).mono ?_; rintro e w2 ⟨g2, rfl, hb2, hB2, hq2⟩; have HB2 := Lib.hid hB2; have HBe2 := Lib.hid hb2; have z0 := cell_bt (cell_dr y0) hb2 HL1.out HN.out; have z1 := cell_bt (cell_dr y1) hb2 HL1.out HN.out; have HL2 := Lib.hid (Nat.lt_of_lt_of_le HL1.out hb2.size); clear hb2 hB2 hq2))
  all_goals
    go_wp2
    go_ret
    exact ⟨_, rfl, ((((But.refl _ w).drew).trans HBe2.out).trans HBe3.out).alloc _, HB3.out.alloc _, trivial⟩
set_option maxRecDepth 100000 in
set_option maxHeartbeats 500000 in
theorem both_if (base gb gp c : Nat) (A : Option Addr) (T : List Nd) (op : Int) (s : ByteArray) (fl sz : Int) (p q : Nat) (t t' : TypeId) (ad : Addr) (c7 : Nat) (w : World) (h : BldP w base gb gp A c T) (hl : ad.block < w.heap.size) (hn : ad.block ≠ gp)
    (hp : w.cell? ad = some (.int .i64 p)) (hp' : w.cell? ⟨ad.block, ad.off + 1, none⟩ = some (.int .i64 q)) (hk : NodeOf base gb gp c A T p t) (hk' : NodeOf base gb gp c A T q t') :
    Calls Try.prog 18 #[.pointer (some ⟨gb, 0, none⟩), .agg #[.int .i64 21, .int .i64 op, .string s, .int .i64 fl, .int .i64 sz], .slice (some ad) 2 c7] w (NodeTo base gb gp c A T 78 (fun _ _ => True) w) := by
  have HC := Lib.hid (cond_any base gb gp c A T p q t t' ad c7 (w.alloc (.cells #[.int .i64 21, .int .i64 op, .string s, .int .i64 fl, .int .i64 sz] 23)) (h.alloc _) (Nat.lt_of_lt_of_le hl ((Below.refl w.heap.size w).alloc (Nat.le_refl _) _).size) hn (cell_al _ hp) (cell_al _ hp') hk hk')
  clear h hk hk' hp hp' hn hl
  go_enter Try.func18, Try.ntmps18
  go_wp2_with (go_at_call 27; refine HC.out.mono ?_; rintro e w2 ⟨g, rfl, hb2, hB2, hq2⟩; have HB2 := Lib.hid hB2; have HBe2 := Lib.hid hb2; clear hb2 hB2 hq2)
  go_ret
  exact ⟨_, rfl, ((But.refl _ w).alloc _).trans HBe2.out, HB2.out, trivial⟩
def BinQ (z : Int) (w : World) (g : Nat) : Prop := ∃ cs, Blk w g 70 cs ∧ cs[12]? = some (.int .i64 z)
theorem binQ_stays (z : Int) : Stays (BinQ z) := fun w g gp ps a u hP ⟨cs, h1, h2⟩ => ⟨cs, h1.far (h1.ne_ hP (by decide)) u, h2⟩
set_option maxRecDepth 100000 in
set_option maxHeartbeats 500000 in
theorem both_bin (base gb gp c : Nat) (A : Option Addr) (T : List Nd) (i : Fin 19) (s : ByteArray) (fl sz : Int) (p q : Nat) (t t' : TypeId) (ad : Addr) (c7 : Nat) (w : World) (h : BldP w base gb gp A c T) (hl : ad.block < w.heap.size) (hn : ad.block ≠ gp)
    (hp : w.cell? ad = some (.int .i64 p)) (hp' : w.cell? ⟨ad.block, ad.off + 1, none⟩ = some (.int .i64 q)) (hk : NodeOf base gb gp c A T p t) (hk' : NodeOf base gb gp c A T q t') :
    Calls Try.prog 18 #[.pointer (some ⟨gb, 0, none⟩), .agg #[.int .i64 23, .int .i64 ((i.val : Int) + 1), .string s, .int .i64 fl, .int .i64 sz], .slice (some ad) 2 c7] w (NodeTo base gb gp c A T 53 (BinQ ((bx i).val : Int)) w) := by
  have HO := Lib.hid (fun w1 : World => binop_any i w1)
  generalize hz : ((bx i).val : Int) = z at HO ⊢
  generalize hj : ((i.val : Int) + 1) = j at HO ⊢
  have HB := Lib.hid h
  have HK : Hid (∀ w1 : World, BldP w1 base gb gp A c T → Calls Try.prog 12 #[.pointer (some ⟨gb, 0, none⟩), .int .i64 p] w1 (NodeTo base gb gp c A T t (fun _ _ => True) w1)) := hk
  have HK' : Hid (∀ w1 : World, BldP w1 base gb gp A c T → Calls Try.prog 12 #[.pointer (some ⟨gb, 0, none⟩), .int .i64 q] w1 (NodeTo base gb gp c A T t' (fun _ _ => True) w1)) := hk'
  have y0 := cell_al (.cells #[.int .i64 23, .int .i64 j, .string s, .int .i64 fl, .int .i64 sz] 23) hp
  have y1 := cell_al (.cells #[.int .i64 23, .int .i64 j, .string s, .int .i64 fl, .int .i64 sz] 23) hp'
  have hl1 : ad.block < (w.alloc (.cells #[.int .i64 23, .int .i64 j, .string s, .int .i64 fl, .int .i64 sz] 23)).heap.size := Nat.lt_of_lt_of_le hl ((Below.refl w.heap.size w).alloc (Nat.le_refl _) _).size
  have HN := Lib.hid hn
  have HL0 := Lib.hid hl1
  clear h hk hk' hp hp' hn hl1 hl hz hj
  go_enter Try.func18, Try.ntmps18
  go_wp2_with (first
    | (go_at_call 29; refine (HO.out _).mono ?_; rintro e w1 ⟨rfl, hb1⟩; have Y0 := cell_below y0 hb1; have Y1 := cell_below y1 hb1; have HL1 : Hid (ad.block < w1.drew.heap.size) := (Nat.lt_of_lt_of_le HL0.out hb1.size); have HB1 := Lib.hid ((HB.out.alloc _).below hb1); have HBe1 := Lib.hid (But.of_below hb1 (Nat.le_refl _) (fun k => k = gp)); clear y0 y1 hb1)
    | (go_at_call 22; refine (count_any gb _ 2 _ 2 2 (by omega) (by omega) _).mono ?_; rintro e w' ⟨rfl, rfl⟩))
  go_region_held3 (fun w' => w'.cell? ad = some (.int .i64 p) ∧ w'.cell? ⟨ad.block, ad.off + 1, none⟩ = some (.int .i64 q))
    (first | with_reducible exact ⟨Y0, Y1⟩ | with_reducible exact ⟨cell_dr Y0, cell_dr Y1⟩ | with_reducible exact ⟨z0, z1⟩ | with_reducible exact ⟨x0, x1⟩ | with_reducible exact ⟨cell_al _ x0, cell_al _ x1⟩ | fail)
    (first
      | (go_at_call 12; refine (HK'.out _ HB2.out).mono ?_; rintro e w3 ⟨g3, rfl, hb3, hB3, hq3⟩; have HB3 := Lib.hid hB3; have HBe3 := Lib.hid hb3; have x0 := cell_bt z0 hb3 HL2.out HN.out; have x1 := cell_bt z1 hb3 HL2.out HN.out; clear hb3 hB3 hq3)
      | (go_at_call 12; refine (HK.out _ (HB1.out.drew)).mono ?_; rintro e w2 ⟨g2, rfl, hb2, hB2, hq2⟩; have HB2 := Lib.hid hB2; have HBe2 := Lib.hid hb2; have z0 := cell_bt (cell_dr Y0) hb2 HL1.out HN.out; have z1 := cell_bt (cell_dr Y1) hb2 HL1.out HN.out; have HL2 := Lib.hid (Nat.lt_of_lt_of_le HL1.out hb2.size); clear hb2 hB2 hq2))
  all_goals
    go_wp2
    go_ret
    exact ⟨_, rfl, ((((((But.refl _ w).alloc _).trans HBe1.out).drew).trans HBe2.out).trans HBe3.out).alloc _, HB3.out.alloc _, _, Blk.new _ _ _, rfl⟩
end Go.Proofs.Ytionkdlcagikaaa
