/-
  Nodes with one kid. Conditions: none.
-/
import Derived.Test.YtionkdlcagikaaaPrcK
namespace Go.Proofs.Ytionkdlcagikaaa
open Go.RowKit
set_option linter.unusedVariables false
set_option linter.unusedSimpArgs false

/-- What node says of a place. -/
def NodeOf (base gb gp c : Nat) (A : Option Addr) (T : List Nd) (p : Nat) (t : TypeId) : Prop :=
  ∀ w1 : World, BldP w1 base gb gp A c T → Calls Try.prog 12 #[.pointer (some ⟨gb, 0, none⟩), .int .i64 p] w1 (NodeTo base gb gp c A T t (fun _ _ => True) w1)
theorem BldP.alloc {w : World} {base gb gp c : Nat} {A : Option Addr} {T : List Nd} (h : BldP w base gb gp A c T) (o : Obj) : BldP (w.alloc o) base gb gp A c T := h.below ((Below.refl _ _).alloc (Nat.le_refl _) _)
set_option maxRecDepth 100000 in
set_option maxHeartbeats 500000 in
theorem both_err (base gb gp c : Nat) (A : Option Addr) (T : List Nd) (op : Int) (s : ByteArray) (fl sz : Int) (p : Nat) (t : TypeId) (ad : Addr) (c7 : Nat) (w : World) (h : BldP w base gb gp A c T) (hp : w.cell? ad = some (.int .i64 p)) (hk : NodeOf base gb gp c A T p t) :
    Calls Try.prog 18 #[.pointer (some ⟨gb, 0, none⟩), .agg #[.int .i64 24, .int .i64 op, .string s, .int .i64 fl, .int .i64 sz], .slice (some ad) 1 c7] w (NodeTo base gb gp c A T 74 (fun _ _ => True) w) := by
  have HB := Lib.hid h
  have HK : Hid (∀ w1 : World, BldP w1 base gb gp A c T → Calls Try.prog 12 #[.pointer (some ⟨gb, 0, none⟩), .int .i64 p] w1 (NodeTo base gb gp c A T t (fun _ _ => True) w1)) := hk
  have hp2 := cell_al (.cells #[.int .i64 24, .int .i64 op, .string s, .int .i64 fl, .int .i64 sz] 23) hp
  clear h hk hp
  go_enter Try.func18, Try.ntmps18
  go_wp2_with (first
    | (go_at_call 22; refine (count_any gb _ 1 _ 1 1 (by omega) (by omega) _).mono ?_; rintro e w' ⟨rfl, rfl⟩)
    | (go_at_call 12; refine (HK.out _ (HB.out.alloc _)).mono ?_; rintro e w2 ⟨g, rfl, hb2, hB2, hq2⟩; have HB2 := Lib.hid hB2; have HBe2 := Lib.hid hb2; clear hb2 hB2 hq2))
  go_ret
  exact ⟨_, rfl, (((But.refl _ w).alloc _).trans HBe2.out).alloc _, HB2.out.alloc _, trivial⟩
set_option maxRecDepth 100000 in
set_option maxHeartbeats 500000 in
theorem both_una (base gb gp c : Nat) (A : Option Addr) (T : List Nd) (s : ByteArray) (fl sz : Int) (p : Nat) (t : TypeId) (ad : Addr) (c7 : Nat) (w : World) (h : BldP w base gb gp A c T) (hp : w.cell? ad = some (.int .i64 p)) (hk : NodeOf base gb gp c A T p t) :
    Calls Try.prog 18 #[.pointer (some ⟨gb, 0, none⟩), .agg #[.int .i64 22, .int .i64 4, .string s, .int .i64 fl, .int .i64 sz], .slice (some ad) 1 c7] w (NodeTo base gb gp c A T 52 (fun _ _ => True) w) := by
  have HB := Lib.hid h
  have HK : Hid (∀ w1 : World, BldP w1 base gb gp A c T → Calls Try.prog 12 #[.pointer (some ⟨gb, 0, none⟩), .int .i64 p] w1 (NodeTo base gb gp c A T t (fun _ _ => True) w1)) := hk
  have hp2 := cell_al (.cells #[.int .i64 22, .int .i64 4, .string s, .int .i64 fl, .int .i64 sz] 23) hp
  clear h hk hp
  go_enter Try.func18, Try.ntmps18
  go_wp2_with (first
    | (go_at_call 22; refine (count_any gb _ 1 _ 1 1 (by omega) (by omega) _).mono ?_; rintro e w' ⟨rfl, rfl⟩)
    | (go_at_call 28; refine (unary_4 _).mono ?_; rintro e w' ⟨rfl, rfl⟩)
    | (go_at_call 12; refine (HK.out _ (HB.out.alloc _)).mono ?_; rintro e w2 ⟨g, rfl, hb2, hB2, hq2⟩; have HB2 := Lib.hid hB2; have HBe2 := Lib.hid hb2; clear hb2 hB2 hq2))
  go_ret
  exact ⟨_, rfl, (((But.refl _ w).alloc _).trans HBe2.out).alloc _, HB2.out.alloc _, trivial⟩
set_option maxRecDepth 100000 in
set_option maxHeartbeats 500000 in
theorem sugar_par (base gb gp c : Nat) (A : Option Addr) (T : List Nd) (op : Int) (s : ByteArray) (fl sz : Int) (p : Nat) (t : TypeId) (ad : Addr) (c7 : Nat) (w : World) (h : BldP w base gb gp A c T) (hp : w.cell? ad = some (.int .i64 p)) (hk : NodeOf base gb gp c A T p t) :
    Calls Try.prog 20 #[.pointer (some ⟨gb, 0, none⟩), .agg #[.int .i64 30, .int .i64 op, .string s, .int .i64 fl, .int .i64 sz], .slice (some ad) 1 c7] w (NodeTo base gb gp c A T 156 (fun _ _ => True) w) := by
  have HB := Lib.hid h
  have HK : Hid (∀ w1 : World, BldP w1 base gb gp A c T → Calls Try.prog 12 #[.pointer (some ⟨gb, 0, none⟩), .int .i64 p] w1 (NodeTo base gb gp c A T t (fun _ _ => True) w1)) := hk
  have hp2 := cell_al (.cells #[.int .i64 30, .int .i64 op, .string s, .int .i64 fl, .int .i64 sz] 23) hp
  clear h hk hp
  go_enter Try.func20, Try.ntmps20
  go_wp2_with (first
    | (go_at_call 22; refine (count_any gb _ 1 _ 1 1 (by omega) (by omega) _).mono ?_; rintro e w' ⟨rfl, rfl⟩)
    | (go_at_call 12; refine (HK.out _ (HB.out.alloc _)).mono ?_; rintro e w2 ⟨g, rfl, hb2, hB2, hq2⟩; have HB2 := Lib.hid hB2; have HBe2 := Lib.hid hb2; clear hb2 hB2 hq2))
  go_ret
  exact ⟨_, rfl, (((But.refl _ w).alloc _).trans HBe2.out).alloc _, HB2.out.alloc _, trivial⟩
set_option maxRecDepth 100000 in
set_option maxHeartbeats 500000 in
theorem both_30 (gb : Nat) (op : Int) (s : ByteArray) (fl sz : Int) (v : Value) (w : World) :
    Calls Try.prog 18 #[.pointer (some ⟨gb, 0, none⟩), .agg #[.int .i64 30, .int .i64 op, .string s, .int .i64 fl, .int .i64 sz], v] w (NilTo w) := by
  go_enter Try.func18, Try.ntmps18
  go_wp2
  go_ret
  exact ⟨rfl, (Below.refl _ _).alloc (Nat.le_refl _) _⟩
end Go.Proofs.Ytionkdlcagikaaa
