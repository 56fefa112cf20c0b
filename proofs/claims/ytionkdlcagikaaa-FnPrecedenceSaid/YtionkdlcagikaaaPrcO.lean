/-
  Binds. Conditions: none.
-/
import Derived.Test.YtionkdlcagikaaaPrcN
namespace Go.Proofs.Ytionkdlcagikaaa
open Go.RowKit
set_option linter.unusedVariables false
set_option linter.unusedSimpArgs false

def bindZ : Array Value := #[.slice none 0 0, .nilIface, .slice none 0 0, .string ⟨#[]⟩, .slice none 0 0, .pointer none, .pointer none, .string ⟨#[]⟩, .int .i64 0, .int .i64 0, .int .i64 0, .int .i64 0]
def bindV (s : ByteArray) (v : Value) : Value := .agg #[.slice none 0 0, v, .slice none 0 0, .string s, .slice none 0 0, .pointer none, .pointer none, .string ⟨#[]⟩, .int .i64 0, .int .i64 0, .int .i64 0, .int .i64 0]
def BindTo (base gb gp c : Nat) (A : Option Addr) (T : List Nd) (s : ByteArray) (w : World) (e : Ending) (w' : World) : Prop :=
  ∃ (t : TypeId) (g : Nat), e = .returned (bindV s (.iface t (.pointer (some ⟨g, 0, none⟩)))) ∧ But (fun k => k = gp) w w' ∧ BldP w' base gb gp A c T
theorem BldP.far {w : World} {base gb gp c : Nat} {A : Option Addr} {T : List Nd} (h : BldP w base gb gp A c T) {p : Addr} (h1 : base ≤ p.block) (h2 : gb ≠ p.block) (h3 : gp ≠ p.block) (u : Value) : BldP (w.setCell p u) base gb gp A c T := by
  obtain ⟨a1, a2, a3, a4, ps, a5, a6⟩ := h
  exact ⟨a1, a2, a3.setCell h1 u, a4.far h2 u, ps, a5.far h3 u, a6⟩
theorem set5_far (w : World) (B : Nat) (a b c d e : Value) {p : Addr} (hp : p.block ≠ B) : (((((w.setCell ⟨B, 0, none⟩ a).setCell ⟨B, 1, none⟩ b).setCell ⟨B, 2, none⟩ c).setCell ⟨B, 3, none⟩ d).setCell ⟨B, 4, none⟩ e).cell? p = w.cell? p :=
  World.cell?_of_block ((((((Below.heap_setCell _ _ _ _ hp).trans (Below.heap_setCell _ _ _ _ hp)).trans (Below.heap_setCell _ _ _ _ hp)).trans (Below.heap_setCell _ _ _ _ hp)).trans (Below.heap_setCell _ _ _ _ hp)))
theorem set12_blk {w : World} {g : Nat} {t : TypeId} {a0 a1 a2 a3 a4 a5 a6 a7 a8 a9 a10 a11 : Value} (h : Blk w g t #[a0, a1, a2, a3, a4, a5, a6, a7, a8, a9, a10, a11]) (b0 b1 b2 b3 b4 b5 b6 b7 b8 b9 b10 b11 : Value) : Blk ((((((((((((w.setCell ⟨g, 0, none⟩ b0).setCell ⟨g, 1, none⟩ b1).setCell ⟨g, 2, none⟩ b2).setCell ⟨g, 3, none⟩ b3).setCell ⟨g, 4, none⟩ b4).setCell ⟨g, 5, none⟩ b5).setCell ⟨g, 6, none⟩ b6).setCell ⟨g, 7, none⟩ b7).setCell ⟨g, 8, none⟩ b8).setCell ⟨g, 9, none⟩ b9).setCell ⟨g, 10, none⟩ b10).setCell ⟨g, 11, none⟩ b11) g t #[b0, b1, b2, b3, b4, b5, b6, b7, b8, b9, b10, b11] := by
  have hx := ((((((((((((h.set_ 0 b0).set_ 1 b1).set_ 2 b2).set_ 3 b3).set_ 4 b4).set_ 5 b5).set_ 6 b6).set_ 7 b7).set_ 8 b8).set_ 9 b9).set_ 10 b10).set_ 11 b11)
  simp only [List.setIfInBounds_toArray, List.set_cons_zero, List.set_cons_succ] at hx
  exact hx
theorem set12_but {P : Nat → Prop} {a w : World} {g : Nat} (h : But P a w) (hg : a.heap.size ≤ g) (b0 b1 b2 b3 b4 b5 b6 b7 b8 b9 b10 b11 : Value) : But P a ((((((((((((w.setCell ⟨g, 0, none⟩ b0).setCell ⟨g, 1, none⟩ b1).setCell ⟨g, 2, none⟩ b2).setCell ⟨g, 3, none⟩ b3).setCell ⟨g, 4, none⟩ b4).setCell ⟨g, 5, none⟩ b5).setCell ⟨g, 6, none⟩ b6).setCell ⟨g, 7, none⟩ b7).setCell ⟨g, 8, none⟩ b8).setCell ⟨g, 9, none⟩ b9).setCell ⟨g, 10, none⟩ b10).setCell ⟨g, 11, none⟩ b11) := ((((((((((((h.setCell (p := ⟨g, 0, none⟩) (.inr hg) b0).setCell (p := ⟨g, 1, none⟩) (.inr hg) b1).setCell (p := ⟨g, 2, none⟩) (.inr hg) b2).setCell (p := ⟨g, 3, none⟩) (.inr hg) b3).setCell (p := ⟨g, 4, none⟩) (.inr hg) b4).setCell (p := ⟨g, 5, none⟩) (.inr hg) b5).setCell (p := ⟨g, 6, none⟩) (.inr hg) b6).setCell (p := ⟨g, 7, none⟩) (.inr hg) b7).setCell (p := ⟨g, 8, none⟩) (.inr hg) b8).setCell (p := ⟨g, 9, none⟩) (.inr hg) b9).setCell (p := ⟨g, 10, none⟩) (.inr hg) b10).setCell (p := ⟨g, 11, none⟩) (.inr hg) b11)
theorem set12_bld {w : World} {base gb gp c g : Nat} {A : Option Addr} {T : List Nd} (h : BldP w base gb gp A c T) (h1 : base ≤ g) (h2 : gb ≠ g) (h3 : gp ≠ g) (b0 b1 b2 b3 b4 b5 b6 b7 b8 b9 b10 b11 : Value) : BldP ((((((((((((w.setCell ⟨g, 0, none⟩ b0).setCell ⟨g, 1, none⟩ b1).setCell ⟨g, 2, none⟩ b2).setCell ⟨g, 3, none⟩ b3).setCell ⟨g, 4, none⟩ b4).setCell ⟨g, 5, none⟩ b5).setCell ⟨g, 6, none⟩ b6).setCell ⟨g, 7, none⟩ b7).setCell ⟨g, 8, none⟩ b8).setCell ⟨g, 9, none⟩ b9).setCell ⟨g, 10, none⟩ b10).setCell ⟨g, 11, none⟩ b11) base gb gp A c T := ((((((((((((h.far (p := ⟨g, 0, none⟩) h1 h2 h3 b0).far (p := ⟨g, 1, none⟩) h1 h2 h3 b1).far (p := ⟨g, 2, none⟩) h1 h2 h3 b2).far (p := ⟨g, 3, none⟩) h1 h2 h3 b3).far (p := ⟨g, 4, none⟩) h1 h2 h3 b4).far (p := ⟨g, 5, none⟩) h1 h2 h3 b5).far (p := ⟨g, 6, none⟩) h1 h2 h3 b6).far (p := ⟨g, 7, none⟩) h1 h2 h3 b7).far (p := ⟨g, 8, none⟩) h1 h2 h3 b8).far (p := ⟨g, 9, none⟩) h1 h2 h3 b9).far (p := ⟨g, 10, none⟩) h1 h2 h3 b10).far (p := ⟨g, 11, none⟩) h1 h2 h3 b11)
set_option maxRecDepth 100000 in
set_option maxHeartbeats 1000000 in
theorem bind_any (base gb gp c : Nat) (A : Option Addr) (T : List Nd) (a p : Nat) (n : Nd) (t : TypeId) (w : World) (h : BldP w base gb gp A c T) (hF : Fit T) (hn : T[a]? = some n) (hk : kidsOf T a = [p]) (h32 : n.kind = 32) (h0 : n.flag = 0) (hnd : NodeOf base gb gp c A T p t) :
    Calls Try.prog 31 #[.pointer (some ⟨gb, 0, none⟩), .int .i64 a] w (BindTo base gb gp c A T n.text w) := by
  have HP := Lib.hid h
  have HF := Lib.hid hF
  have HNd : Hid (∀ w1 : World, BldP w1 base gb gp A c T → Calls Try.prog 12 #[.pointer (some ⟨gb, 0, none⟩), .int .i64 p] w1 (NodeTo base gb gp c A T t (fun _ _ => True) w1)) := hnd
  have ha := (List.getElem?_eq_some_iff.1 hn).1
  have HKd : Hid (∀ w1, Below w.heap.size w w1 → Calls Try.prog 15 #[.pointer (some ⟨gb, 0, none⟩), .int .i64 a] w1 (PlacesTo w1 [p])) := fun w1 h1 => by
    have := kids_any base gb c A T a w1 (HP.out.below h1).bld HF.out ha
    rw [hk] at this
    exact this
  have hgl : gb < w.heap.size := h.2.2.2.1.lt
  have hgpl : gp < w.heap.size := by obtain ⟨_, _, _, _, ps, h5, _⟩ := h; exact h5.lt
  have HGP := Lib.hid hgpl
  go_enter Try.func31, Try.ntmps31
  go_wp2_with fail
  have hZ : Blk (w.alloc (.cells bindZ 152)) w.heap.size 152 bindZ := Blk.new w _ _
  have hBe : Below w.heap.size w (w.alloc (.cells bindZ 152)) := (Below.refl _ _).alloc (Nat.le_refl _) _
  unfold bindZ at hZ hBe
  generalize hG : w.heap.size = g4 at hZ hBe HKd hgpl HGP hgl ⊢
  generalize hW : w.alloc _ = W1 at hZ hBe ⊢
  have hs1 := hZ.lt
  have hP1 := HP.out.below (by rw [hG]; exact hBe)
  have hgl1 : gb < W1.heap.size := by omega
  obtain ⟨hbg, hr, -⟩ : base ≤ gb ∧ Reads W1 base 5 A T.length (flatN T) ∧ True := ⟨hP1.1, hP1.2.2.1, trivial⟩
  have y0 : W1.cell? ⟨gb, 0, none⟩ = some (.slice A T.length c) := hP1.row
  obtain ⟨ad, rfl, hab, g0, g1, g2, g3, g4'⟩ := (hr.more (show base ≤ W1.heap.size by omega)).node hn
  rw [h32] at g0
  rw [h0] at g3
  have a0 : (0 : Int) ≤ (a : Int) := by omega
  have a1 : (a : Int) < (T.length : Int) := by omega
  have hpb : (ad.add (a * 5)).block < W1.heap.size := by rw [block_of_add]; exact hab
  have HZ := Lib.hid hZ
  have HBe := Lib.hid hBe
  have HP1 := Lib.hid hP1
  have HG := Lib.hid hG
  have HS1 := Lib.hid hs1
  clear hr hP1 hF hnd hn hk h32 h0 h hZ hBe hG hW hs1
  have NC : Prop := True
  go_region_held3 (fun w' => w'.cell? ⟨gb, 0, none⟩ = some (.slice (some ad) T.length c) ∧ w'.cell? (ad.add (a * 5)) = some (.int .i64 32) ∧ w'.cell? ⟨(ad.add (a * 5)).block, (ad.add (a * 5)).off + 1, none⟩ = some (.int .i64 n.op) ∧ w'.cell? ⟨(ad.add (a * 5)).block, (ad.add (a * 5)).off + 2, none⟩ = some (.string n.text) ∧ w'.cell? ⟨(ad.add (a * 5)).block, (ad.add (a * 5)).off + 3, none⟩ = some (.int .i64 0) ∧ w'.cell? ⟨(ad.add (a * 5)).block, (ad.add (a * 5)).off + 4, none⟩ = some (.int .i64 n.size))
    (first | with_reducible exact ⟨y0, g0, g1, g2, g3, g4'⟩ | with_reducible exact ⟨z0, z1, z2, z3, z4, z5⟩ | with_reducible exact ⟨cell_dr y0, cell_dr g0, cell_dr g1, cell_dr g2, cell_dr g3, cell_dr g4'⟩ | with_reducible exact ⟨cell_dr (cell_al _ y0), cell_dr (cell_al _ g0), cell_dr (cell_al _ g1), cell_dr (cell_al _ g2), cell_dr (cell_al _ g3), cell_dr (cell_al _ g4')⟩ | with_reducible exact ⟨cell_al _ (cell_dr y0), cell_al _ (cell_dr g0), cell_al _ (cell_dr g1), cell_al _ (cell_dr g2), cell_al _ (cell_dr g3), cell_al _ (cell_dr g4')⟩ | with_reducible exact ⟨cell_al _ z0, cell_al _ z1, cell_al _ z2, cell_al _ z3, cell_al _ z4, cell_al _ z5⟩ | with_reducible exact ⟨cell_b z0 hgl1 (set5 _ _ _ _ _ _ _), cell_b z1 hpb (set5 _ _ _ _ _ _ _), cell_b z2 hpb (set5 _ _ _ _ _ _ _), cell_b z3 hpb (set5 _ _ _ _ _ _ _), cell_b z4 hpb (set5 _ _ _ _ _ _ _), cell_b z5 hpb (set5 _ _ _ _ _ _ _)⟩ | with_reducible exact ⟨cell_b (cell_al _ z0) q0 (set5 _ _ _ _ _ _ _), cell_b (cell_al _ z1) qb (set5 _ _ _ _ _ _ _), cell_b (cell_al _ z2) qb (set5 _ _ _ _ _ _ _), cell_b (cell_al _ z3) qb (set5 _ _ _ _ _ _ _), cell_b (cell_al _ z4) qb (set5 _ _ _ _ _ _ _), cell_b (cell_al _ z5) qb (set5 _ _ _ _ _ _ _)⟩ | fail)
    (first
      | (go_at_call 15; refine (HKd.out _ ((HBe.out.alloc (Nat.le_of_lt HS1.out) _).drew)).mono ?_; rintro e w2 ⟨v2, rfl, hv2, hB2⟩; have hW2 : Below W1.heap.size W1 w2 := (((Below.refl _ _).alloc (Nat.le_refl _) _).drew).trans (hB2.mono (by simp)); have z0 := cell_below y0 hW2; have z1 := cell_below g0 hW2; have z2 := cell_below g1 hW2; have z3 := cell_below g2 hW2; have z4 := cell_below g3 hW2; have z5 := cell_below g4' hW2; have q0 : gb < w2.heap.size := Nat.lt_of_lt_of_le hgl1 hW2.size; have qb : (ad.add (a * 5)).block < w2.heap.size := Nat.lt_of_lt_of_le hpb hW2.size; have hbk : Blk w2 W1.heap.size 23 #[.int .i64 0, .int .i64 0, .string ⟨#[]⟩, .int .i64 0, .int .i64 0] := ((Blk.new W1 _ _).drew).later hB2; have HBK := Lib.hid hbk; have m0 : w2.cell? ⟨W1.heap.size, 0, none⟩ = some (.int .i64 0) := hbk.cell 0; have m1 : w2.cell? ⟨W1.heap.size, 1, none⟩ = some (.int .i64 0) := hbk.cell 1; have m2 : w2.cell? ⟨W1.heap.size, 2, none⟩ = some (.string ⟨#[]⟩) := hbk.cell 2; have m3 : w2.cell? ⟨W1.heap.size, 3, none⟩ = some (.int .i64 0) := hbk.cell 3; have m4 : w2.cell? ⟨W1.heap.size, 4, none⟩ = some (.int .i64 0) := hbk.cell 4; have f0 := hbk.frozen 0; have f1 := hbk.frozen 1; have f2 := hbk.frozen 2; have f3 := hbk.frozen 3; have f4 := hbk.frozen 4)
      | (go_at_call 15; refine (HKd.out _ HBe.out.drew).mono ?_; rintro e w2 ⟨v2, rfl, hv2, hB2⟩; have hW2 : Below W1.heap.size W1 w2 := ((Below.refl _ _).drew).trans hB2; have z0 := cell_below y0 hW2; have z1 := cell_below g0 hW2; have z2 := cell_below g1 hW2; have z3 := cell_below g2 hW2; have z4 := cell_below g3 hW2; have z5 := cell_below g4' hW2; have q0 : gb < w2.heap.size := Nat.lt_of_lt_of_le hgl1 hW2.size; have qb : (ad.add (a * 5)).block < w2.heap.size := Nat.lt_of_lt_of_le hpb hW2.size))
  all_goals
    obtain ⟨ad6, c6, hv6, hc6, hl6, hnew6, hp6⟩ := places_one hv2.1 hv2.2
    subst hv6
    clear hv2
    first
      | (have hN : Blk (((((w2.setCell ⟨W1.heap.size, 0, none⟩ (.int .i64 32)).setCell ⟨W1.heap.size, 1, none⟩ (.int .i64 n.op)).setCell ⟨W1.heap.size, 2, none⟩ (.string n.text)).setCell ⟨W1.heap.size, 3, none⟩ (.int .i64 0)).setCell ⟨W1.heap.size, 4, none⟩ (.int .i64 n.size)) W1.heap.size 23 #[.int .i64 32, .int .i64 n.op, .string n.text, .int .i64 0, .int .i64 n.size] := ((((HBK.out.set_ 0 (.int .i64 32)).set_ 1 (.int .i64 n.op)).set_ 2 (.string n.text)).set_ 3 (.int .i64 0)).set_ 4 (.int .i64 n.size)
         have hBW := hW2.trans (set5 w2 W1.heap.size (.int .i64 32) (.int .i64 n.op) (.string n.text) (.int .i64 0) (.int .i64 n.size))
         have hq9 : ad6.block ≠ W1.heap.size := by
           have h9 : (W1.alloc (.cells #[.int .i64 0, .int .i64 0, .string ⟨#[]⟩, .int .i64 0, .int .i64 0] 23)).heap.size ≤ ad6.block := hnew6
           rw [World.size_alloc] at h9
           omega
         have hp7 := (set5_far w2 W1.heap.size (.int .i64 32) (.int .i64 n.op) (.string n.text) (.int .i64 0) (.int .i64 n.size) (p := ad6) hq9).trans hp6
         generalize hWB : World.setCell _ ⟨W1.heap.size, 4, none⟩ _ = W3 at hN hBW hp7 ⊢
         generalize hg5 : W1.heap.size = g5 at hN ⊢)
      | (have hN := Blk.new w2 23 #[.int .i64 32, .int .i64 n.op, .string n.text, .int .i64 0, .int .i64 n.size]
         have hBW := hW2.alloc hW2.size (.cells #[.int .i64 32, .int .i64 n.op, .string n.text, .int .i64 0, .int .i64 n.size] 23)
         have hp7 := cell_al (.cells #[.int .i64 32, .int .i64 n.op, .string n.text, .int .i64 0, .int .i64 n.size] 23) hp6
         generalize hWA : w2.alloc _ = W3 at hN hBW hp7 ⊢
         generalize hg5 : w2.heap.size = g5 at hN ⊢)
    have HP3 := Lib.hid (HP1.out.below hBW)
    have HZ3 := Lib.hid (HZ.out.later hBW)
    have HBW := Lib.hid (HBe.out.trans (hBW.mono (Nat.le_of_lt HS1.out)))
    have n0 := hN.cell 0
    have n2 := hN.cell 2
    have n3 := hN.cell 3
    have N0 := cell_al (.cells #[.slice none 0 0, .nilIface, .slice none 0 0, .string n.text, .slice none 0 0, .pointer none, .pointer none, .string ⟨#[]⟩, .int .i64 0, .int .i64 0, .int .i64 0, .int .i64 0] 152) n0
    have N3 := cell_al (.cells #[.slice none 0 0, .nilIface, .slice none 0 0, .string n.text, .slice none 0 0, .pointer none, .pointer none, .string ⟨#[]⟩, .int .i64 0, .int .i64 0, .int .i64 0, .int .i64 0] 152) n3
    have P0 := cell_al (.cells #[.slice none 0 0, .nilIface, .slice none 0 0, .string n.text, .slice none 0 0, .pointer none, .pointer none, .string ⟨#[]⟩, .int .i64 0, .int .i64 0, .int .i64 0, .int .i64 0] 152) hp7
    have H7 := Lib.hid (Blk.new W3 152 #[.slice none 0 0, .nilIface, .slice none 0 0, .string n.text, .slice none 0 0, .pointer none, .pointer none, .string ⟨#[]⟩, .int .i64 0, .int .i64 0, .int .i64 0, .int .i64 0])
    have HS3 := Lib.hid hBW.size
    have hne7 : W3.heap.size ≠ gp := by have := HGP.out; have := HS1.out; have := hBW.size; omega
    have hne4 : g4 ≠ W3.heap.size := by have := HS1.out; have := hBW.size; omega
    have hne4' : g4 ≠ gp := by have := HGP.out; omega
    have HQ1 : Hid (base ≤ W3.heap.size) := by have := HP3.out.2.2.2.1.lt; have := HP3.out.1; show base ≤ _; omega
    have HQ2 : Hid (gb ≠ W3.heap.size) := by have := HP3.out.2.2.2.1.lt; show gb ≠ _; omega
    have HQ3 : Hid (gp ≠ W3.heap.size) := Ne.symm hne7
    have HR1 : Hid (base ≤ g4) := by have := HP.out.2.2.2.1.lt; have := HP.out.1; have := HG.out; show base ≤ _; omega
    have HR2 : Hid (gb ≠ g4) := by have := HP.out.2.2.2.1.lt; have := HG.out; show gb ≠ _; omega
    have HR3 : Hid (gp ≠ g4) := Ne.symm hne4'
    have HN7 := Lib.hid hne7
    have HN4 := Lib.hid hne4
    have HN4' := Lib.hid hne4'
    clear hN hBW n3 hne7 hne4 hne4' hp7 hl6 hnew6 hp6 hgl hgl1 hbg a0 a1 hpb hgpl ha
    go_wp2_with (go_at_call 12; (refine (HNd.out _ (HP3.out.alloc _)).mono ?_; rintro e w5 ⟨g6, rfl, hb5, hB5, -⟩; have h7 := H7.out.but hb5 HN7.out; have c1o := h7.cell 1; have f1o := h7.frozen 1; have h8 : Blk (w5.setCell ⟨W3.heap.size, 1, none⟩ (.iface t (.pointer (some ⟨g6, 0, none⟩)))) W3.heap.size 152 #[.slice none 0 0, .iface t (.pointer (some ⟨g6, 0, none⟩)), .slice none 0 0, .string n.text, .slice none 0 0, .pointer none, .pointer none, .string ⟨#[]⟩, .int .i64 0, .int .i64 0, .int .i64 0, .int .i64 0] := h7.set_ 1 _; have h9 : Blk (w5.setCell ⟨W3.heap.size, 1, none⟩ (.iface t (.pointer (some ⟨g6, 0, none⟩)))) g4 152 #[.slice none 0 0, .nilIface, .slice none 0 0, .string ⟨#[]⟩, .slice none 0 0, .pointer none, .pointer none, .string ⟨#[]⟩, .int .i64 0, .int .i64 0, .int .i64 0, .int .i64 0] := ((HZ3.out.alloc _).but hb5 HN4'.out).far HN4.out _; have HB5 := Lib.hid (hB5.far (p := ⟨W3.heap.size, 1, none⟩) HQ1.out HQ2.out HQ3.out (.iface t (.pointer (some ⟨g6, 0, none⟩)))); have HBe5 := Lib.hid hb5; have H9 := Lib.hid h9; have c0 := h8.cell 0; have c1 := h8.cell 1; have c2 := h8.cell 2; have c3 := h8.cell 3; have c4 := h8.cell 4; have c5 := h8.cell 5; have c6 := h8.cell 6; have c7 := h8.cell 7; have c8 := h8.cell 8; have c9 := h8.cell 9; have c10 := h8.cell 10; have c11 := h8.cell 11; have d0 := h9.cell 0; have k0 := h9.frozen 0; have d1 := h9.cell 1; have k1 := h9.frozen 1; have d2 := h9.cell 2; have k2 := h9.frozen 2; have d3 := h9.cell 3; have k3 := h9.frozen 3; have d4 := h9.cell 4; have k4 := h9.frozen 4; have d5 := h9.cell 5; have k5 := h9.frozen 5; have d6 := h9.cell 6; have k6 := h9.frozen 6; have d7 := h9.cell 7; have k7 := h9.frozen 7; have d8 := h9.cell 8; have k8 := h9.frozen 8; have d9 := h9.cell 9; have k9 := h9.frozen 9; have d10 := h9.cell 10; have k10 := h9.frozen 10; have d11 := h9.cell 11; have k11 := h9.frozen 11; clear h7 h8 h9 hB5 hb5))
    have hE := set12_blk H9.out (.slice none 0 0) (.iface t (.pointer (some ⟨g6, 0, none⟩))) (.slice none 0 0) (.string n.text) (.slice none 0 0) (.pointer none) (.pointer none) (.string ⟨#[]⟩) (.int .i64 0) (.int .i64 0) (.int .i64 0) (.int .i64 0)
    have HE0 := set12_but ((((But.of_below HBW.out (by rw [HG.out]; exact Nat.le_refl _) (fun k => k = gp)).alloc _).trans HBe5.out).setCell (p := ⟨W3.heap.size, 1, none⟩) (.inr HBW.out.size) (.iface t (.pointer (some ⟨g6, 0, none⟩)))) (by rw [HG.out]; exact Nat.le_refl _) (g := g4) (.slice none 0 0) (.iface t (.pointer (some ⟨g6, 0, none⟩))) (.slice none 0 0) (.string n.text) (.slice none 0 0) (.pointer none) (.pointer none) (.string ⟨#[]⟩) (.int .i64 0) (.int .i64 0) (.int .i64 0) (.int .i64 0)
    have HE1 := set12_bld HB5.out HR1.out HR2.out HR3.out (.slice none 0 0) (.iface t (.pointer (some ⟨g6, 0, none⟩))) (.slice none 0 0) (.string n.text) (.slice none 0 0) (.pointer none) (.pointer none) (.string ⟨#[]⟩) (.int .i64 0) (.int .i64 0) (.int .i64 0) (.int .i64 0)
    have E0 := hE.cell 0
    have E1 := hE.cell 1
    have E2 := hE.cell 2
    have E3 := hE.cell 3
    have E4 := hE.cell 4
    have E5 := hE.cell 5
    have E6 := hE.cell 6
    have E7 := hE.cell 7
    have E8 := hE.cell 8
    have E9 := hE.cell 9
    have E10 := hE.cell 10
    have E11 := hE.cell 11
    refine bodyPost_ret (v := bindV n.text (.iface t (.pointer (some ⟨g6, 0, none⟩)))) (by simp [bindV, results, Try.results31, go_sem, E0, E1, E2, E3, E4, E5, E6, E7, E8, E9, E10, E11]) rfl ⟨t, g6, rfl, HE0, HE1⟩
end Go.Proofs.Ytionkdlcagikaaa
