/-
  Fodder: FodderHasCleanEndline, MakeFodderElement, FodderAppend, FodderEnsureCleanNewline. Conditions: none.
-/
import Derived.Test.YtdjnknkdnacbnaaFodD
import Derived.Test.YtdjnknkdnacbnaaBut
import Derived.RegionTactic
import Derived.Deep.RegionLaw
namespace Go.Proofs.Ytdjnknkdnacbnaa
open Go.RowKit
set_option linter.unusedVariables false
set_option linter.unusedSimpArgs false

theorem clean_yes (A : Option Addr) (c j : Nat) (E : List El) (e : El) (w : World) (h : Els cellsA w A E) (he : E[j]? = some e) (hj : j ≤ 200) (hk : (e.kind == 1) = false) :
    Calls Try.prog 25 #[.slice A (j + 1) c] w fun e w' => e = .returned (.bool true) ∧ w = w' := by
  obtain ⟨ad, u, rfl, hb, hu, hc⟩ := h j e he
  obtain ⟨h0, h1, h2, h3⟩ := four_of hc
  have z0 : (0 : Int) ≤ (j : Int) := by omega
  clear hc hu he h h0 h2 h3
  go_enter Try.func25, Try.ntmps25
  go_wp2
  go_ret
  exact ⟨ret_bool (by simp [bne, hk]), rfl⟩
theorem clean_not (A : Option Addr) (c j : Nat) (E : List El) (e : El) (w : World) (h : Els cellsA w A E) (he : E[j]? = some e) (hj : j ≤ 200) (hk : e.kind = 1) :
    Calls Try.prog 25 #[.slice A (j + 1) c] w fun e w' => e = .returned (.bool false) ∧ w = w' := by
  obtain ⟨ad, u, rfl, hb, hu, hc⟩ := h j e he
  obtain ⟨h0, h1, h2, h3⟩ := four_of hc
  have z0 : (0 : Int) ≤ (j : Int) := by omega
  rw [hk] at h1
  clear hc hu he h h0 h2 h3 hk
  go_enter Try.func25, Try.ntmps25
  go_wp2
  go_ret
  exact ⟨ret_bool (by simp), rfl⟩
theorem mk_end (u : Option Addr) (c : Nat) (w : World) :
    Calls Try.prog 29 #[.int .i64 0, .int .i64 0, .int .i64 0, .slice u 0 c] w fun e w' => e = .returned (.agg #[.slice u 0 c, .int .i64 0, .int .i64 0, .int .i64 0]) ∧ Below w.heap.size w w' := by
  go_enter Try.func29, Try.ntmps29
  go_wp2
  exact bodyPost_ret (v := .agg #[.slice u 0 c, .int .i64 0, .int .i64 0, .int .i64 0]) (by simp [results, Try.results29, go_sem]) rfl ⟨rfl, (Below.refl _ _).alloc (Nat.le_refl _) _⟩

/-- What an element put behind a list leaves. -/
def App (w : World) (base q n : Nat) (v : Value) (xs : List Value) (e : Ending) (w' : World) : Prop :=
  e = .returned (.tuple #[]) ∧ ∃ v', w'.cell? ⟨q, 0, none⟩ = some v' ∧ w'.ownsRow base 60 4 v' n xs ∧ v'.ownBlock ≠ some q ∧ But (fun k => k = q ∨ v.ownBlock = some k) w w'

set_option maxRecDepth 100000 in
set_option maxHeartbeats 800000 in
theorem app_end (q base : Nat) (A U : Option Addr) (c cu j : Nat) (E : List El) (e : El) (xs : List Value) (w : World) (hc : w.cell? ⟨q, 0, none⟩ = some (.slice A (j + 1) c)) (hf : w.frozen? ⟨q, 0, none⟩ = false)
    (ho : w.ownsRow base 60 4 (.slice A (j + 1) c) (j + 1) xs) (hq : (Value.slice A (j + 1) c).ownBlock ≠ some q) (hels : Els cellsA w A E) (he : E[j]? = some e) (hj : j ≤ 200) (hk : e.kind = 1) (hbase : base ≤ w.heap.size) :
    Calls Try.prog 28 #[.pointer (some ⟨q, 0, none⟩), .agg #[.slice U 0 cu, .int .i64 0, .int .i64 0, .int .i64 0]] w
      (App w base q (j + 1 + 1) (.slice A (j + 1) c) (xs ++ [.slice U 0 cu, .int .i64 0, .int .i64 0, .int .i64 0])) := by
  obtain ⟨i60, hi60, hz60, hz60', hz60''⟩ := info_parts info_elA
  have hql := World.block_lt_of_cell? w _ hc
  have hne : q ≠ w.heap.size := by have : q < w.heap.size := hql; omega
  have Hels := Lib.hid hels
  have He := Lib.hid he
  have Hk := Lib.hid hk
  have Ho := Lib.hid ho
  have Hq := Lib.hid hq
  clear hels he hk ho hq
  go_enter Try.func28, Try.ntmps28
  go_wp2_with (go_at_call 25; refine (clean_not A c j E e _ (Hels.out.below ((Below.refl _ _).alloc (Nat.le_refl _) _)) He.out hj Hk.out).mono ?_; rintro e' w' ⟨rfl, rfl⟩)
  go_region_law ((refine step_append_lies _ (by rfl) (.tmp 79) (.tmp 81) _ (by rfl) base 60 i60 _ 4 48 Try.underlying38 hi60 hz60 hz60' hz60'' rfl (by omega) (.slice A (j + 1) c) (j + 1) xs (by simp [Act.eval])
                        ((Ho.out.alloc _).drew.alloc _) ⟨w.heap.size + 1, 0, none⟩ 1 1 [.slice U 0 cu, .int .i64 0, .int .i64 0, .int .i64 0] (by simp [Act.eval]) (by rfl)
                        (fun j u h => by
                           have := World.news_of_block (cs := #[.slice U 0 cu, .int .i64 0, .int .i64 0, .int .i64 0]) (t := 60) (fr := (0, 0)) (heap_alloc_new (w.alloc (.cells #[.slice U 0 cu, .int .i64 0, .int .i64 0, .int .i64 0] 60)) _) j u h
                           simpa using this) (by simp [Value.oneCell'])
                        (by omega) (by simp only [maxLen]; omega) (by omega) (by simp; omega) (w.heap.size + 1 + 1) (by simp) ?_; intro g2 cap2 w2 hown2 hg2 hat2 hlt2;
                   have kc := (hg2.cell_far ⟨q, 0, none⟩ (by simp; omega) (fun e => Hq.out e.symm)).trans (((((Below.refl _ _).alloc (Nat.le_refl _) _).drew.alloc (by simp) _).cell hql).trans hc);
                   have kf := (hg2.frozen_far ⟨q, 0, none⟩ (by simp; omega) (fun e => Hq.out e.symm)).trans (((((Below.refl _ _).alloc (Nat.le_refl _) _).drew.alloc (by simp) _).frozen hql).trans hf)))
  all_goals
    go_end0
    have hqg : q ≠ g2 := by
      rintro rfl
      rcases hat2 with h | h
      · exact Hq.out h
      · have : q < w.heap.size := hql
        omega
    refine ⟨rfl, _, World.cell?_setCell_same' _ _ _ (by rw [kc]; rfl), ownsRow_set hown2 (by simp [Value.ownBlock]; omega), by simp [Value.ownBlock]; omega, ?_⟩
    exact ((((But.refl _ _).alloc _).drew.alloc _).grown hg2 (fun k hk => .inl (.inr hk))).setCell (.inl (.inl rfl)) _

theorem ens_clean (q : Nat) (A : Option Addr) (c j : Nat) (E : List El) (e : El) (w : World) (hc : w.cell? ⟨q, 0, none⟩ = some (.slice A (j + 1) c)) (hels : Els cellsA w A E) (he : E[j]? = some e) (hj : j ≤ 200) (hk : (e.kind == 1) = false) :
    Calls Try.prog 24 #[.pointer (some ⟨q, 0, none⟩)] w fun e w' => e = .returned (.tuple #[]) ∧ w = w' := by
  have Hels := Lib.hid hels
  have He := Lib.hid he
  have Hk := Lib.hid hk
  clear hels he hk
  go_enter Try.func24, Try.ntmps24
  go_wp2_with (go_at_call 25; refine (clean_yes A c j E e _ Hels.out He.out hj Hk.out).mono ?_; rintro e' w' ⟨rfl, rfl⟩)
  go_end0
  exact ⟨rfl, rfl⟩

def AppE (w : World) (base q n : Nat) (v : Value) (xs : List Value) (e : Ending) (w' : World) : Prop :=
  e = .returned (.tuple #[]) ∧ ∃ (v' : Value) (g : Nat), w'.cell? ⟨q, 0, none⟩ = some v' ∧ w'.ownsRow base 60 4 v' n (xs ++ [.slice (some ⟨g, 0, none⟩) 0 0, .int .i64 0, .int .i64 0, .int .i64 0]) ∧ v'.ownBlock ≠ some q ∧
    w.heap.size ≤ g ∧ w'.ownsRow base 9 1 (.slice (some ⟨g, 0, none⟩) 0 0) 0 [] ∧ But (fun k => k = q ∨ v.ownBlock = some k) w w'

theorem ens_end (q base : Nat) (A : Option Addr) (c j : Nat) (E : List El) (e : El) (xs : List Value) (w : World) (hc : w.cell? ⟨q, 0, none⟩ = some (.slice A (j + 1) c)) (hf : w.frozen? ⟨q, 0, none⟩ = false)
    (ho : w.ownsRow base 60 4 (.slice A (j + 1) c) (j + 1) xs) (hq : (Value.slice A (j + 1) c).ownBlock ≠ some q) (hels : Els cellsA w A E) (he : E[j]? = some e) (hj : j ≤ 200) (hk : e.kind = 1) (hbase : base ≤ w.heap.size) :
    Calls Try.prog 24 #[.pointer (some ⟨q, 0, none⟩)] w (AppE w base q (j + 1 + 1) (.slice A (j + 1) c) xs) := by
  have Hels := Lib.hid hels
  have He := Lib.hid he
  have Hk := Lib.hid hk
  have Ho := Lib.hid ho
  have Hq := Lib.hid hq
  have hql := World.block_lt_of_cell? w _ hc
  clear hels he hk ho hq
  go_enter Try.func24, Try.ntmps24
  go_wp2_with (go_at_call 25; refine (clean_not A c j E e _ Hels.out He.out hj Hk.out).mono ?_; rintro e' w' ⟨rfl, rfl⟩)
  go_wp2_with fail
  go_at_call 29
  refine (mk_end _ _ _).mono ?_
  rintro e' w1 ⟨rfl, hb1⟩
  have hb : Below w.heap.size w w1 := ((Below.refl _ _).alloc (Nat.le_refl _) _).trans (hb1.mono (by simp))
  have hs1 := hb1.size
  simp at hs1
  have hg1 : w1.ownsRow base 9 1 (.slice (some ⟨w.heap.size, 0, none⟩) 0 0) 0 [] := ownsRow_below (own_empty w w.heap.size base 9 hbase rfl) hb1
  have HG := Lib.hid hg1
  have HB := Lib.hid hb
  clear hg1 hb1 hb
  go_wp2_with fail
  go_at_call 28
  refine (app_end q base A _ c _ j E e xs w1 ((HB.out.cell hql).trans hc) ((HB.out.frozen hql).trans hf) (ownsRow_below Ho.out HB.out) Hq.out (Hels.out.below HB.out) He.out hj Hk.out (by omega)).mono ?_
  rintro e' w2 ⟨rfl, v', k1, k2, k3, k4⟩
  have HK := Lib.hid (And.intro k1 (And.intro k2 (And.intro k3 k4)))
  clear k1 k2 k3 k4
  go_wp2
  go_end0
  obtain ⟨k1, k2, k3, k4⟩ := HK.out
  refine ⟨rfl, v', w.heap.size, k1, k2, k3, Nat.le_refl _, ownsRow_but HG.out k4 (fun g hg => ?_), ((But.of_below HB.out (Nat.le_refl _) _).trans k4)⟩
  simp [Value.ownBlock] at hg
  subst hg
  rintro (h | h)
  · have : q < w.heap.size := hql
    omega
  · have := (Ho.out.lt _ h).2
    omega
end Go.Proofs.Ytdjnknkdnacbnaa
