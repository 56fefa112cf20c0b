/-
  The builder puts a node into its place. Conditions: none.
-/
import Derived.Test.YtionkdlcagikaaaPrcF
namespace Go.Proofs.Ytionkdlcagikaaa
open Go.RowKit
set_option linter.unusedVariables false
set_option linter.unusedSimpArgs false

/-- The builder, with the block of its places. -/
def BldP (w : World) (base gb gp : Nat) (A : Option Addr) (c : Nat) (T : List Nd) : Prop := base ≤ gb ∧ base ≤ gp ∧ Reads w base 5 A T.length (flatN T) ∧
  Blk w gb 45 #[.slice A T.length c, .bool false, .bool false, .slice (some ⟨gp, 0, none⟩) T.length T.length] ∧ ∃ ps, Blk w gp 34 ps ∧ ps.size = T.length
theorem BldP.bld {w : World} {base gb gp c : Nat} {A : Option Addr} {T : List Nd} (h : BldP w base gb gp A c T) : Bld w base gb A c T := by
  obtain ⟨h1, h2, h3, h4, ps, h5, h6⟩ := h
  exact ⟨h1, h3, gp, ps, h2, h4, h5, h6⟩
theorem BldP.below {w w' : World} {base gb gp c : Nat} {A : Option Addr} {T : List Nd} (h : BldP w base gb gp A c T) (hb : Below w.heap.size w w') : BldP w' base gb gp A c T := by
  obtain ⟨h1, h2, h3, h4, ps, h5, h6⟩ := h
  have h7 := h4.lt
  exact ⟨h1, h2, h3.keep fun p hp => hb.cell (by omega), h4.later hb, ps, h5.later hb, h6⟩
theorem BldP.put {w : World} {base gb gp c : Nat} {A : Option Addr} {T : List Nd} (h : BldP w base gb gp A c T) (a : Nat) (u : Value) : BldP (w.setCell ⟨gp, a, none⟩ u) base gb gp A c T := by
  obtain ⟨h1, h2, h3, h4, ps, h5, h6⟩ := h
  exact ⟨h1, h2, h3.setCell h2 u, h4.far (h4.ne_ h5 (by decide)) u, _, h5.set_ a u, by simpa using h6⟩
/-- A node is made. -/
def NodeTo (base gb gp c : Nat) (A : Option Addr) (T : List Nd) (t : TypeId) (Q : World → Nat → Prop) (w : World) (e : Ending) (w' : World) : Prop :=
  ∃ g : Nat, e = .returned (.iface t (.pointer (some ⟨g, 0, none⟩))) ∧ But (fun k => k = gp) w w' ∧ BldP w' base gb gp A c T ∧ Q w' g
def Stays (Q : World → Nat → Prop) : Prop := ∀ (w : World) (g gp : Nat) (ps : Array Value) (a : Nat) (u : Value), Blk w gp 34 ps → Q w g → Q (w.setCell ⟨gp, a, none⟩ u) g
set_option maxRecDepth 100000 in
set_option maxHeartbeats 500000 in
theorem node_any (base gb gp c : Nat) (A : Option Addr) (T : List Nd) (a : Nat) (t : TypeId) (Q : World → Nat → Prop) (hQ : Stays Q) (w : World) (h : BldP w base gb gp A c T) (ha : a < T.length)
    (hm : ∀ w1 : World, BldP w1 base gb gp A c T → Calls Try.prog 14 #[.pointer (some ⟨gb, 0, none⟩), .int .i64 a] w1 (NodeTo base gb gp c A T t Q w1)) :
    Calls Try.prog 12 #[.pointer (some ⟨gb, 0, none⟩), .int .i64 a] w (NodeTo base gb gp c A T t Q w) := by
  have HM := Lib.hid hm
  have HB := Lib.hid h
  have HQ := Lib.hid hQ
  obtain ⟨hbg, hp1, hr, hB, ps, hP, hps⟩ := h
  have y3 : w.cell? ⟨gb, 3, none⟩ = some (.slice (some ⟨gp, 0, none⟩) T.length T.length) := hB.cell 3
  have a0 : (0 : Int) ≤ (a : Int) := by omega
  have a1 : (a : Int) < (T.length : Int) := by omega
  clear hm hQ hr hB hP
  go_enter Try.func12, Try.ntmps12
  go_wp2_with fail
  go_region_held3 (fun w' => w'.cell? ⟨gb, 3, none⟩ = some (.slice (some ⟨gp, 0, none⟩) T.length T.length))
    (first | with_reducible exact y3 | with_reducible exact cell_dr y3 | with_reducible exact z3 | with_reducible exact z6 | fail)
    (first
      | (go_at_call 14; refine (HM.out _ (HB.out.below (Below.refl _ _).drew)).mono ?_; rintro e w2 ⟨g, rfl, hb2, hB2, hq2⟩; have HB2 := Lib.hid hB2; have HQ2 := Lib.hid hq2; have HBe2 := Lib.hid hb2; obtain ⟨b1, b2, b3, b4, ps2, b5, b6⟩ := hB2; have z3 : w2.cell? ⟨gb, 3, none⟩ = some (.slice (some ⟨gp, 0, none⟩) T.length T.length) := b4.cell 3; have z4 : w2.cell? ⟨gp, a, none⟩ = some ps2[a] := (b5.cell a).trans (Array.getElem?_eq_getElem (by omega)); have z5 := b5.frozen a; have z6 : (w2.setCell ⟨gp, a, none⟩ (.iface t (.pointer (some ⟨g, 0, none⟩)))).cell? ⟨gb, 3, none⟩ = some (.slice (some ⟨gp, 0, none⟩) T.length T.length) := (b4.far (b4.ne_ b5 (by decide)) _).cell 3; have HQ3 := Lib.hid (HQ.out w2 g gp ps2 a (.iface t (.pointer (some ⟨g, 0, none⟩))) b5 HQ2.out); clear b3 b4 b5 hq2))
  all_goals
    go_wp2
    go_ret
    refine ⟨g, rfl, ?_, HB2.out.put a _, HQ3.out⟩
    exact ((But.refl _ w).drew).trans (But.setCell HBe2.out (.inl rfl) _)
/-- A leaf is put into its place. -/
theorem node_leaf (base gb gp c : Nat) (A : Option Addr) (T : List Nd) (a : Nat) (n : Nd) (t : TypeId) (w : World) (h : BldP w base gb gp A c T) (hF : Fit T) (hn : T[a]? = some n) (hk : kidsOf T a = []) (hlf : LeafOf gb n t) :
    Calls Try.prog 12 #[.pointer (some ⟨gb, 0, none⟩), .int .i64 a] w (NodeTo base gb gp c A T t (fun _ _ => True) w) :=
  node_any base gb gp c A T a t _ (fun _ _ _ _ _ _ _ _ => trivial) w h (List.getElem?_eq_some_iff.1 hn).1 fun w1 h1 =>
    (made_leaf base gb c A T a n t w1 h1.bld hF hn hk hlf).mono fun e w2 ⟨g, he, hb⟩ => ⟨g, he, But.of_below hb (Nat.le_refl _) _, h1.below hb, trivial⟩
end Go.Proofs.Ytionkdlcagikaaa
