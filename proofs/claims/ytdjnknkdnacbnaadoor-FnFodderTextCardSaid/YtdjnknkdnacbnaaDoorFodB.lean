/-
  Fodder: what the law takes for fodder. Conditions: none.
-/
import Derived.Test.YtdjnknkdnacbnaaDoorFodA
import Derived.Test.YtdjnknkdnacbnaaDoorReg
namespace Go.Proofs.YtdjnknkdnacbnaaDoor
open Go.RowKit
set_option linter.unusedVariables false
set_option linter.unusedSimpArgs false

def OkF (E : List El) : Prop := E.length ≤ 100 ∧ ∀ (k : Nat) (e : El), E[k]? = some e → OkEl e

theorem element_yes (K B I : Int) (ss : List ByteArray) (A : Option Addr) (c : Nat) (w : World) (h : OkEl ⟨K, B, I, ss⟩) (hr : Reads w w.heap.size 1 A ss.length (strs ss)) :
    Calls Tryd.prog 17 #[.agg #[.int .i64 K, .int .i64 B, .int .i64 I, .slice A ss.length c]] w fun e w' => e = .returned (.bool true) ∧ Below w.heap.size w w' :=
  (element_any K B I ss A c w hr).mono fun e w' ⟨⟨b, he, hb⟩, hw⟩ => ⟨by rw [he, hb.2 h], hw⟩
theorem element_not (K B I : Int) (ss : List ByteArray) (A : Option Addr) (c : Nat) (w : World) (h : ¬ OkEl ⟨K, B, I, ss⟩) (hr : Reads w w.heap.size 1 A ss.length (strs ss)) :
    Calls Tryd.prog 17 #[.agg #[.int .i64 K, .int .i64 B, .int .i64 I, .slice A ss.length c]] w fun e w' => e = .returned (.bool false) ∧ Below w.heap.size w w' :=
  (element_any K B I ss A c w hr).mono fun e w' ⟨⟨b, he, hb⟩, hw⟩ => ⟨by cases b; exact he; exact absurd (hb.1 rfl) h, hw⟩
theorem follows_is (r : Bool) (K B I K' B' I' : Int) (u u' : Value) (w : World) (h : flw K K' = r) :
    Calls Tryd.prog 18 #[.agg #[.int .i64 K, .int .i64 B, .int .i64 I, u], .agg #[.int .i64 K', .int .i64 B', .int .i64 I', u']] w fun e w' => e = .returned (.bool r) ∧ Below w.heap.size w w' := by
  subst h; exact follows_any K B I K' B' I' u u' w

theorem cellz {w w' : World} {p : Addr} {v : Value} (hb : Below w.heap.size w w') (h : w.cell? p = some v) : w'.cell? p = some v := cell_below h hb

set_option maxRecDepth 100000 in
set_option maxHeartbeats 600000 in
theorem fodder_any (A : Option Addr) (c : Nat) (E : List El) (w : World) (h : Els cellsI w A E) :
    Calls Tryd.prog 10 #[.slice A E.length c] w fun e w' => (∃ b, e = .returned (.bool b) ∧ (b = true → OkF E)) ∧ Below w.heap.size w w' := by
  by_cases hm : E.length ≤ 100
  · have HR := Lib.hid h
    clear h
    go_enter Tryd.func10, Tryd.ntmps10
    go_wp2
    go_loopw [3] (fun i wr => ∃ k : Nat, k ≤ E.length ∧ i = .int .i64 k ∧ (∀ (j : Nat) (e : El), j < k → E[j]? = some e → OkEl e) ∧ Below w.heap.size w wr) (fun i _ => E.length - (intOf i).toNat)
    case atStart => exact ⟨0, by omega, rfl, fun j e h => absurd h (by omega), Below.refl _ _⟩
    case round =>
      obtain ⟨k, hk, rfl, hall, hbw⟩ := hrel
      have HA := Lib.hid hall
      clear hall
      by_cases hlt : k < E.length
      · obtain ⟨e, he⟩ : ∃ e, E[k]? = some e := ⟨_, List.getElem?_eq_getElem hlt⟩
        obtain ⟨ad, u, rfl, hb, hu, hc⟩ := HR.out.below hbw k e he
        obtain ⟨h0, h1, h2, h3⟩ := four_of hc
        obtain ⟨K, B, I, ss⟩ := e
        simp only at h0 h1 h2 h3 hu
        obtain ⟨A', c', rfl, hlc, hr⟩ := hu
        have Hr := Lib.hid hr
        have He := Lib.hid he
        have hsz := hbw.size
        have z0 : (0 : Int) ≤ (k : Int) := Int.natCast_nonneg _
        have z1 : (k : Int) < (E.length : Int) := by omega
        have HN : Hid (OkEl ⟨K, B, I, ss⟩ → ∀ (j : Nat) (e : El), j < k + 1 → E[j]? = some e → OkEl e) := fun ho j e hj h => by
          by_cases hjk : j = k
          · subst hjk
            rw [He.out] at h
            injection h with h
            subst h
            exact ho
          · exact HA.out j e (by omega) h
        clear he hc hr HA
        by_cases hok : OkEl ⟨K, B, I, ss⟩
        · have Hok := Lib.hid hok
          clear hok
          by_cases hk0 : k = 0
          · have hd0 : decide ((0 : Int) < (k : Int)) = false := decide_eq_false (by omega)
            have Hk0 := Lib.hid hk0
            clear hk0
            go_wp2_with fail
            refine wp_region_held_drew (S := (fun w' => w'.cell? (ad.add (k * 4)) = some (.int .i64 K) ∧ w'.cell? ⟨(ad.add (k * 4)).block, (ad.add (k * 4)).off + 1, none⟩ = some (.int .i64 B) ∧ w'.cell? ⟨(ad.add (k * 4)).block, (ad.add (k * 4)).off + 2, none⟩ = some (.int .i64 I) ∧ w'.cell? ⟨(ad.add (k * 4)).block, (ad.add (k * 4)).off + 3, none⟩ = some (.slice A' ss.length c'))) (by kernel_rfl) ⟨h0, h1, h2, h3⟩ (fun hHeld => ?_)
            refine takeH (i := 0) 13 ?vze0 rfl (by rfl) (by kernel_rfl) (by kernel_rfl) (by kernel_rfl) (fun _ _ _ h => h) (Or.inl ⟨by rfl, ?hyze0⟩) (by assumption) ?restze0
            case hyze0 => (intro w hSw; (try dsimp only at hSw); go_simp; try (with_reducible rfl))
            (try simp only [List.setIfInBounds_toArray, List.set_cons_zero, List.set_cons_succ])
            refine takeH (i := 1) 14 ?vze1 rfl (by rfl) (by kernel_rfl) (by kernel_rfl) (by kernel_rfl) (fun _ _ _ h => h) (Or.inl ⟨by rfl, ?hyze1⟩) (by assumption) ?restze1
            case hyze1 => (intro w hSw; (try dsimp only at hSw); go_simp; try (with_reducible rfl))
            (try simp only [List.setIfInBounds_toArray, List.set_cons_zero, List.set_cons_succ])
            refine takeH (i := 2) 15 ?vze2 rfl (by rfl) (by kernel_rfl) (by kernel_rfl) (by kernel_rfl) (fun _ _ _ h => h) (Or.inl ⟨by rfl, ?hyze2⟩) (by assumption) ?restze2
            case hyze2 => (intro w hSw; (try dsimp only at hSw); go_simp; try (with_reducible rfl))
            (try simp only [List.setIfInBounds_toArray, List.set_cons_zero, List.set_cons_succ])
            refine takeH (i := 3) 16 ?vze3 rfl (by rfl) (by kernel_rfl) (by kernel_rfl) (by kernel_rfl) (fun _ _ _ h => h) (Or.inl ⟨by rfl, ?hyze3⟩) (by assumption) ?restze3
            case hyze3 => (intro w hSw; (try dsimp only at hSw); go_simp; try (with_reducible rfl))
            (try simp only [List.setIfInBounds_toArray, List.set_cons_zero, List.set_cons_succ])
            refine wpAnyH_ready (rs := [4]) (by kernel_rfl) (by simp) (AllReadyH.cons rfl (fun Kq hKq => ?_) AllReadyH.nil)
            go_simp
            go_at_call 17
            refine (element_yes K B I ss A' c' wr.drew Hok.out Hr.out).mono ?_
            rintro e' w1 ⟨rfl, hb1⟩
            go_wp2_with fail
            refine hKq.out _ _ ⟨cellz hb1 (h0), cellz hb1 (h1), cellz hb1 (h2), cellz hb1 (h3)⟩ (fun hHeld => ?_)
            clear hKq Kq
            (try simp only [List.setIfInBounds_toArray, List.set_cons_zero, List.set_cons_succ])
            refine takeH (i := 5) 18 ?vze5 rfl (by rfl) (by kernel_rfl) (by kernel_rfl) (by kernel_rfl) (fun _ _ _ h => h) (Or.inl ⟨by rfl, ?hyze5⟩) (by assumption) ?restze5
            case hyze5 => (intro w hSw; (try dsimp only at hSw); go_simp; try (with_reducible rfl))
            (try simp only [List.setIfInBounds_toArray, List.set_cons_zero, List.set_cons_succ])
            refine takeH (i := 6) 19 ?vze6 rfl (by rfl) (by kernel_rfl) (by kernel_rfl) (by kernel_rfl) (fun _ _ _ h => h) (Or.inl ⟨by rfl, ?hyze6⟩) (by assumption) ?restze6
            case hyze6 => (intro w hSw; (try dsimp only at hSw); go_simp; try (with_reducible rfl))
            (try simp only [List.setIfInBounds_toArray, List.set_cons_zero, List.set_cons_succ])
            refine takeH (i := 7) 20 ?vze7 rfl (by rfl) (by kernel_rfl) (by kernel_rfl) (by kernel_rfl) (fun _ _ _ h => h) (Or.inl ⟨by rfl, ?hyze7⟩) (by assumption) ?restze7
            case hyze7 => (intro w hSw; (try dsimp only at hSw); go_simp; try (with_reducible rfl))
            (try simp only [List.setIfInBounds_toArray, List.set_cons_zero, List.set_cons_succ])
            refine takeH (i := 8) 21 (.bool false) rfl (by rfl) (by kernel_rfl) (by kernel_rfl) (by kernel_rfl) (fun _ _ _ h => h) (Or.inl ⟨by rfl, ?hyze8⟩) (by assumption) ?restze8
            case hyze8 => (intro w hSw; (try dsimp only at hSw); go_simp; all_goals (have q := Hk0.out; subst q; simp))
            (try simp only [List.setIfInBounds_toArray, List.set_cons_zero, List.set_cons_succ])
            refine takeH (i := 9) 22 ?vze9 rfl (by rfl) (by kernel_rfl) (by kernel_rfl) (by kernel_rfl) (fun _ _ _ h => h) (Or.inl ⟨by rfl, ?hyze9⟩) (by assumption) ?restze9
            case hyze9 => (intro w hSw; (try dsimp only at hSw); go_simp; try (with_reducible rfl))
            (try simp only [List.setIfInBounds_toArray, List.set_cons_zero, List.set_cons_succ])
            refine takeH (i := 10) 23 undef rfl (by rfl) (by kernel_rfl) (by kernel_rfl) (by kernel_rfl) (fun _ _ _ h => h) (Or.inr ⟨by rfl, rfl⟩) (by assumption) ?_
            (try simp only [List.setIfInBounds_toArray, List.set_cons_zero, List.set_cons_succ])
            refine takeH (i := 11) 24 undef rfl (by rfl) (by kernel_rfl) (by kernel_rfl) (by kernel_rfl) (fun _ _ _ h => h) (Or.inr ⟨by rfl, rfl⟩) (by assumption) ?_
            (try simp only [List.setIfInBounds_toArray, List.set_cons_zero, List.set_cons_succ])
            refine takeH (i := 12) 25 undef rfl (by rfl) (by kernel_rfl) (by kernel_rfl) (by kernel_rfl) (fun _ _ _ h => h) (Or.inr ⟨by rfl, rfl⟩) (by assumption) ?_
            (try simp only [List.setIfInBounds_toArray, List.set_cons_zero, List.set_cons_succ])
            refine takeH (i := 13) 26 undef rfl (by rfl) (by kernel_rfl) (by kernel_rfl) (by kernel_rfl) (fun _ _ _ h => h) (Or.inr ⟨by rfl, rfl⟩) (by assumption) ?_
            (try simp only [List.setIfInBounds_toArray, List.set_cons_zero, List.set_cons_succ])
            refine takeH (i := 14) 27 undef rfl (by rfl) (by kernel_rfl) (by kernel_rfl) (by kernel_rfl) (fun _ _ _ h => h) (Or.inr ⟨by rfl, rfl⟩) (by assumption) ?_
            (try simp only [List.setIfInBounds_toArray, List.set_cons_zero, List.set_cons_succ])
            refine takeH (i := 15) 28 undef rfl (by rfl) (by kernel_rfl) (by kernel_rfl) (by kernel_rfl) (fun _ _ _ h => h) (Or.inr ⟨by rfl, rfl⟩) (by assumption) ?_
            (try simp only [List.setIfInBounds_toArray, List.set_cons_zero, List.set_cons_succ])
            refine takeH (i := 16) 29 undef rfl (by rfl) (by kernel_rfl) (by kernel_rfl) (by kernel_rfl) (fun _ _ _ h => h) (Or.inr ⟨by rfl, rfl⟩) (by assumption) ?_
            (try simp only [List.setIfInBounds_toArray, List.set_cons_zero, List.set_cons_succ])
            refine takeH (i := 17) 30 undef rfl (by rfl) (by kernel_rfl) (by kernel_rfl) (by kernel_rfl) (fun _ _ _ h => h) (Or.inr ⟨by rfl, rfl⟩) (by assumption) ?_
            (try simp only [List.setIfInBounds_toArray, List.set_cons_zero, List.set_cons_succ])
            refine takeH (i := 18) 31 undef rfl (by rfl) (by kernel_rfl) (by kernel_rfl) (by kernel_rfl) (fun _ _ _ h => h) (Or.inr ⟨by rfl, rfl⟩) (by assumption) ?_
            (try simp only [List.setIfInBounds_toArray, List.set_cons_zero, List.set_cons_succ])
            refine takeH (i := 19) 32 undef rfl (by rfl) (by kernel_rfl) (by kernel_rfl) (by kernel_rfl) (fun _ _ _ h => h) (Or.inr ⟨by rfl, rfl⟩) (by assumption) ?_
            (try simp only [List.setIfInBounds_toArray, List.set_cons_zero, List.set_cons_succ])
            refine takeH (i := 20) 33 undef rfl (by rfl) (by kernel_rfl) (by kernel_rfl) (by kernel_rfl) (fun _ _ _ h => h) (Or.inr ⟨by rfl, rfl⟩) (by assumption) ?_
            (try simp only [List.setIfInBounds_toArray, List.set_cons_zero, List.set_cons_succ])
            refine takeH (i := 21) 34 ?vze21 rfl (by rfl) (by kernel_rfl) (by kernel_rfl) (by kernel_rfl) (fun _ _ _ h => h) (Or.inl ⟨by rfl, ?hyze21⟩) (by assumption) ?restze21
            case hyze21 => (intro w hSw; (try dsimp only at hSw); go_simp; try (with_reducible rfl))
            (try simp only [List.setIfInBounds_toArray, List.set_cons_zero, List.set_cons_succ])
            refine takeH (i := 22) 35 ?vze22 rfl (by rfl) (by kernel_rfl) (by kernel_rfl) (by kernel_rfl) (fun _ _ _ h => h) (Or.inl ⟨by rfl, ?hyze22⟩) (by assumption) ?restze22
            case hyze22 => (intro w hSw; (try dsimp only at hSw); go_simp; try (with_reducible rfl))
            (try simp only [List.setIfInBounds_toArray, List.set_cons_zero, List.set_cons_succ])
            refine wpAnyH_done (by kernel_rfl) ?_ _
            have hB := Lib.hid (hbw.trans ((show Below wr.heap.size wr w1 from ⟨hb1.os, hb1.tape, hb1.output, hb1.size, hb1.block⟩).mono hsz))
            clear hb1 hHeld h0 h1 h2 h3
            go_wp2
            go_roundw
            case rel => exact ⟨k + 1, by omega, by go_num, HN.out Hok.out, hB.out⟩
            case measure => simp [intOf]; omega
          · obtain ⟨j, rfl⟩ : ∃ j, k = j + 1 := ⟨k - 1, by omega⟩
            obtain ⟨e2, he2⟩ : ∃ e, E[j]? = some e := ⟨_, List.getElem?_eq_getElem (by omega)⟩
            obtain ⟨ad', u2v, had, -, hu2, hc2⟩ := HR.out.below hbw j e2 he2
            injection had with had
            subst had
            obtain ⟨g0, g1, g2, g3⟩ := four_of hc2
            obtain ⟨K2, B2, I2, ss2⟩ := e2
            simp only at g0 g1 g2 g3 hu2
            clear hc2 he2 hu2 hk0
            have z2 : (0 : Int) ≤ (j : Int) + 1 := by omega
            have z3 : (j : Int) + 1 < (E.length : Int) := by omega
            have z4 : (0 : Int) ≤ (j : Int) := by omega
            have z5 : (j : Int) < (E.length : Int) := by omega
            have z6 : decide ((0 : Int) < (j : Int) + 1) = true := decide_eq_true (by omega)
            have z7 : IntKind.i64.wrap (j : Int) = j := by rw [IntKind.wrap_i64]; omega
            cases hf : flw K2 K
            · go_wp2_with fail
              refine wp_region_held_drew (S := (fun w' => w'.cell? (ad.add ((j + 1) * 4)) = some (.int .i64 K) ∧ w'.cell? ⟨(ad.add ((j + 1) * 4)).block, (ad.add ((j + 1) * 4)).off + 1, none⟩ = some (.int .i64 B) ∧ w'.cell? ⟨(ad.add ((j + 1) * 4)).block, (ad.add ((j + 1) * 4)).off + 2, none⟩ = some (.int .i64 I) ∧ w'.cell? ⟨(ad.add ((j + 1) * 4)).block, (ad.add ((j + 1) * 4)).off + 3, none⟩ = some (.slice A' ss.length c') ∧ w'.cell? (ad.add (j * 4)) = some (.int .i64 K2) ∧ w'.cell? ⟨(ad.add (j * 4)).block, (ad.add (j * 4)).off + 1, none⟩ = some (.int .i64 B2) ∧ w'.cell? ⟨(ad.add (j * 4)).block, (ad.add (j * 4)).off + 2, none⟩ = some (.int .i64 I2) ∧ w'.cell? ⟨(ad.add (j * 4)).block, (ad.add (j * 4)).off + 3, none⟩ = some (u2v))) (by kernel_rfl) ⟨h0, h1, h2, h3, g0, g1, g2, g3⟩ (fun hHeld => ?_)
              refine takeH (i := 0) 13 ?vnt0 rfl (by rfl) (by kernel_rfl) (by kernel_rfl) (by kernel_rfl) (fun _ _ _ h => h) (Or.inl ⟨by rfl, ?hynt0⟩) (by assumption) ?restnt0
              case hynt0 => (intro w hSw; (try dsimp only at hSw); go_simp; try (with_reducible rfl))
              (try simp only [List.setIfInBounds_toArray, List.set_cons_zero, List.set_cons_succ])
              refine takeH (i := 1) 14 ?vnt1 rfl (by rfl) (by kernel_rfl) (by kernel_rfl) (by kernel_rfl) (fun _ _ _ h => h) (Or.inl ⟨by rfl, ?hynt1⟩) (by assumption) ?restnt1
              case hynt1 => (intro w hSw; (try dsimp only at hSw); go_simp; try (with_reducible rfl))
              (try simp only [List.setIfInBounds_toArray, List.set_cons_zero, List.set_cons_succ])
              refine takeH (i := 2) 15 ?vnt2 rfl (by rfl) (by kernel_rfl) (by kernel_rfl) (by kernel_rfl) (fun _ _ _ h => h) (Or.inl ⟨by rfl, ?hynt2⟩) (by assumption) ?restnt2
              case hynt2 => (intro w hSw; (try dsimp only at hSw); go_simp; try (with_reducible rfl))
              (try simp only [List.setIfInBounds_toArray, List.set_cons_zero, List.set_cons_succ])
              refine takeH (i := 3) 16 ?vnt3 rfl (by rfl) (by kernel_rfl) (by kernel_rfl) (by kernel_rfl) (fun _ _ _ h => h) (Or.inl ⟨by rfl, ?hynt3⟩) (by assumption) ?restnt3
              case hynt3 => (intro w hSw; (try dsimp only at hSw); go_simp; try (with_reducible rfl))
              (try simp only [List.setIfInBounds_toArray, List.set_cons_zero, List.set_cons_succ])
              refine wpAnyH_ready (rs := [4]) (by kernel_rfl) (by simp) (AllReadyH.cons rfl (fun Kq hKq => ?_) AllReadyH.nil)
              go_simp
              go_at_call 17
              refine (element_yes K B I ss A' c' wr.drew Hok.out Hr.out).mono ?_
              rintro e' w1 ⟨rfl, hb1⟩
              go_wp2_with fail
              refine hKq.out _ _ ⟨cellz hb1 (h0), cellz hb1 (h1), cellz hb1 (h2), cellz hb1 (h3), cellz hb1 (g0), cellz hb1 (g1), cellz hb1 (g2), cellz hb1 (g3)⟩ (fun hHeld => ?_)
              clear hKq Kq
              (try simp only [List.setIfInBounds_toArray, List.set_cons_zero, List.set_cons_succ])
              refine takeH (i := 5) 18 ?vnt5 rfl (by rfl) (by kernel_rfl) (by kernel_rfl) (by kernel_rfl) (fun _ _ _ h => h) (Or.inl ⟨by rfl, ?hynt5⟩) (by assumption) ?restnt5
              case hynt5 => (intro w hSw; (try dsimp only at hSw); go_simp; try (with_reducible rfl))
              (try simp only [List.setIfInBounds_toArray, List.set_cons_zero, List.set_cons_succ])
              refine takeH (i := 6) 19 ?vnt6 rfl (by rfl) (by kernel_rfl) (by kernel_rfl) (by kernel_rfl) (fun _ _ _ h => h) (Or.inl ⟨by rfl, ?hynt6⟩) (by assumption) ?restnt6
              case hynt6 => (intro w hSw; (try dsimp only at hSw); go_simp; try (with_reducible rfl))
              (try simp only [List.setIfInBounds_toArray, List.set_cons_zero, List.set_cons_succ])
              refine takeH (i := 7) 20 ?vnt7 rfl (by rfl) (by kernel_rfl) (by kernel_rfl) (by kernel_rfl) (fun _ _ _ h => h) (Or.inl ⟨by rfl, ?hynt7⟩) (by assumption) ?restnt7
              case hynt7 => (intro w hSw; (try dsimp only at hSw); go_simp; try (with_reducible rfl))
              (try simp only [List.setIfInBounds_toArray, List.set_cons_zero, List.set_cons_succ])
              refine takeH (i := 8) 21 ?vnt8 rfl (by rfl) (by kernel_rfl) (by kernel_rfl) (by kernel_rfl) (fun _ _ _ h => h) (Or.inl ⟨by rfl, ?hynt8⟩) (by assumption) ?restnt8
              case hynt8 => (intro w hSw; (try dsimp only at hSw); go_simp; try (with_reducible rfl))
              (try simp only [List.setIfInBounds_toArray, List.set_cons_zero, List.set_cons_succ])
              refine takeH (i := 9) 22 ?vnt9 rfl (by rfl) (by kernel_rfl) (by kernel_rfl) (by kernel_rfl) (fun _ _ _ h => h) (Or.inl ⟨by rfl, ?hynt9⟩) (by assumption) ?restnt9
              case hynt9 => (intro w hSw; (try dsimp only at hSw); go_simp; try (with_reducible rfl))
              (try simp only [List.setIfInBounds_toArray, List.set_cons_zero, List.set_cons_succ])
              refine takeH (i := 10) 23 ?vnt10 rfl (by rfl) (by kernel_rfl) (by kernel_rfl) (by kernel_rfl) (fun _ _ _ h => h) (Or.inl ⟨by rfl, ?hynt10⟩) (by assumption) ?restnt10
              case hynt10 => (intro w hSw; (try dsimp only at hSw); go_simp; try (with_reducible rfl))
              (try simp only [List.setIfInBounds_toArray, List.set_cons_zero, List.set_cons_succ])
              refine takeH (i := 11) 24 ?vnt11 rfl (by rfl) (by kernel_rfl) (by kernel_rfl) (by kernel_rfl) (fun _ _ _ h => h) (Or.inl ⟨by rfl, ?hynt11⟩) (by assumption) ?restnt11
              case hynt11 => (intro w hSw; (try dsimp only at hSw); go_simp; try (with_reducible rfl))
              (try simp only [List.setIfInBounds_toArray, List.set_cons_zero, List.set_cons_succ])
              refine takeH (i := 12) 25 ?vnt12 rfl (by rfl) (by kernel_rfl) (by kernel_rfl) (by kernel_rfl) (fun _ _ _ h => h) (Or.inl ⟨by rfl, ?hynt12⟩) (by assumption) ?restnt12
              case hynt12 => (intro w hSw; (try dsimp only at hSw); go_simp; try (with_reducible rfl))
              (try simp only [List.setIfInBounds_toArray, List.set_cons_zero, List.set_cons_succ])
              refine takeH (i := 13) 26 ?vnt13 rfl (by rfl) (by kernel_rfl) (by kernel_rfl) (by kernel_rfl) (fun _ _ _ h => h) (Or.inl ⟨by rfl, ?hynt13⟩) (by assumption) ?restnt13
              case hynt13 => (intro w hSw; (try dsimp only at hSw); go_simp; try (with_reducible rfl))
              (try simp only [List.setIfInBounds_toArray, List.set_cons_zero, List.set_cons_succ])
              refine takeH (i := 14) 27 ?vnt14 rfl (by rfl) (by kernel_rfl) (by kernel_rfl) (by kernel_rfl) (fun _ _ _ h => h) (Or.inl ⟨by rfl, ?hynt14⟩) (by assumption) ?restnt14
              case hynt14 => (intro w hSw; (try dsimp only at hSw); go_simp; try (with_reducible rfl))
              (try simp only [List.setIfInBounds_toArray, List.set_cons_zero, List.set_cons_succ])
              refine takeH (i := 15) 28 ?vnt15 rfl (by rfl) (by kernel_rfl) (by kernel_rfl) (by kernel_rfl) (fun _ _ _ h => h) (Or.inl ⟨by rfl, ?hynt15⟩) (by assumption) ?restnt15
              case hynt15 => (intro w hSw; (try dsimp only at hSw); go_simp; try (with_reducible rfl))
              (try simp only [List.setIfInBounds_toArray, List.set_cons_zero, List.set_cons_succ])
              refine takeH (i := 16) 29 ?vnt16 rfl (by rfl) (by kernel_rfl) (by kernel_rfl) (by kernel_rfl) (fun _ _ _ h => h) (Or.inl ⟨by rfl, ?hynt16⟩) (by assumption) ?restnt16
              case hynt16 => (intro w hSw; (try dsimp only at hSw); go_simp; try (with_reducible rfl))
              (try simp only [List.setIfInBounds_toArray, List.set_cons_zero, List.set_cons_succ])
              refine takeH (i := 17) 30 ?vnt17 rfl (by rfl) (by kernel_rfl) (by kernel_rfl) (by kernel_rfl) (fun _ _ _ h => h) (Or.inl ⟨by rfl, ?hynt17⟩) (by assumption) ?restnt17
              case hynt17 => (intro w hSw; (try dsimp only at hSw); go_simp; try (with_reducible rfl))
              (try simp only [List.setIfInBounds_toArray, List.set_cons_zero, List.set_cons_succ])
              refine takeH (i := 18) 31 ?vnt18 rfl (by rfl) (by kernel_rfl) (by kernel_rfl) (by kernel_rfl) (fun _ _ _ h => h) (Or.inl ⟨by rfl, ?hynt18⟩) (by assumption) ?restnt18
              case hynt18 => (intro w hSw; (try dsimp only at hSw); go_simp; try (with_reducible rfl))
              (try simp only [List.setIfInBounds_toArray, List.set_cons_zero, List.set_cons_succ])
              refine wpAnyH_ready (rs := [19]) (by kernel_rfl) (by simp) (AllReadyH.cons rfl (fun Kq hKq => ?_) AllReadyH.nil)
              go_simp
              go_at_call 18
              refine (follows_is false K2 B2 I2 K B I u2v (.slice A' ss.length c') _ hf).mono ?_
              rintro e' w2 ⟨rfl, hb2⟩
              go_wp2_with fail
              refine hKq.out _ _ ⟨cellz hb2 (hHeld.1), cellz hb2 (hHeld.2.1), cellz hb2 (hHeld.2.2.1), cellz hb2 (hHeld.2.2.2.1), cellz hb2 (hHeld.2.2.2.2.1), cellz hb2 (hHeld.2.2.2.2.2.1), cellz hb2 (hHeld.2.2.2.2.2.2.1), cellz hb2 (hHeld.2.2.2.2.2.2.2)⟩ (fun hHeld => ?_)
              clear hKq Kq
              (try simp only [List.setIfInBounds_toArray, List.set_cons_zero, List.set_cons_succ])
              refine takeH (i := 20) 33 ?vnt20 rfl (by rfl) (by kernel_rfl) (by kernel_rfl) (by kernel_rfl) (fun _ _ _ h => h) (Or.inl ⟨by rfl, ?hynt20⟩) (by assumption) ?restnt20
              case hynt20 => (intro w hSw; (try dsimp only at hSw); go_simp; try (with_reducible rfl))
              (try simp only [List.setIfInBounds_toArray, List.set_cons_zero, List.set_cons_succ])
              refine takeH (i := 21) 34 ?vnt21 rfl (by rfl) (by kernel_rfl) (by kernel_rfl) (by kernel_rfl) (fun _ _ _ h => h) (Or.inl ⟨by rfl, ?hynt21⟩) (by assumption) ?restnt21
              case hynt21 => (intro w hSw; (try dsimp only at hSw); go_simp; try (with_reducible rfl))
              (try simp only [List.setIfInBounds_toArray, List.set_cons_zero, List.set_cons_succ])
              refine takeH (i := 22) 35 ?vnt22 rfl (by rfl) (by kernel_rfl) (by kernel_rfl) (by kernel_rfl) (fun _ _ _ h => h) (Or.inl ⟨by rfl, ?hynt22⟩) (by assumption) ?restnt22
              case hynt22 => (intro w hSw; (try dsimp only at hSw); go_simp; try (with_reducible rfl))
              (try simp only [List.setIfInBounds_toArray, List.set_cons_zero, List.set_cons_succ])
              refine wpAnyH_done (by kernel_rfl) ?_ _
              have hB := Lib.hid (hbw.trans (((show Below wr.heap.size wr w1 from ⟨hb1.os, hb1.tape, hb1.output, hb1.size, hb1.block⟩).trans (hb2.mono hb1.size)).mono hsz))
              clear hb1 hb2 hHeld h0 h1 h2 h3 g0 g1 g2 g3
              go_wp2
              go_ret
              exact ⟨⟨_, rfl, fun h => by simp at h⟩, hB.out⟩
            · go_wp2_with fail
              refine wp_region_held_drew (S := (fun w' => w'.cell? (ad.add ((j + 1) * 4)) = some (.int .i64 K) ∧ w'.cell? ⟨(ad.add ((j + 1) * 4)).block, (ad.add ((j + 1) * 4)).off + 1, none⟩ = some (.int .i64 B) ∧ w'.cell? ⟨(ad.add ((j + 1) * 4)).block, (ad.add ((j + 1) * 4)).off + 2, none⟩ = some (.int .i64 I) ∧ w'.cell? ⟨(ad.add ((j + 1) * 4)).block, (ad.add ((j + 1) * 4)).off + 3, none⟩ = some (.slice A' ss.length c') ∧ w'.cell? (ad.add (j * 4)) = some (.int .i64 K2) ∧ w'.cell? ⟨(ad.add (j * 4)).block, (ad.add (j * 4)).off + 1, none⟩ = some (.int .i64 B2) ∧ w'.cell? ⟨(ad.add (j * 4)).block, (ad.add (j * 4)).off + 2, none⟩ = some (.int .i64 I2) ∧ w'.cell? ⟨(ad.add (j * 4)).block, (ad.add (j * 4)).off + 3, none⟩ = some (u2v))) (by kernel_rfl) ⟨h0, h1, h2, h3, g0, g1, g2, g3⟩ (fun hHeld => ?_)
              refine takeH (i := 0) 13 ?vye0 rfl (by rfl) (by kernel_rfl) (by kernel_rfl) (by kernel_rfl) (fun _ _ _ h => h) (Or.inl ⟨by rfl, ?hyye0⟩) (by assumption) ?restye0
              case hyye0 => (intro w hSw; (try dsimp only at hSw); go_simp; try (with_reducible rfl))
              (try simp only [List.setIfInBounds_toArray, List.set_cons_zero, List.set_cons_succ])
              refine takeH (i := 1) 14 ?vye1 rfl (by rfl) (by kernel_rfl) (by kernel_rfl) (by kernel_rfl) (fun _ _ _ h => h) (Or.inl ⟨by rfl, ?hyye1⟩) (by assumption) ?restye1
              case hyye1 => (intro w hSw; (try dsimp only at hSw); go_simp; try (with_reducible rfl))
              (try simp only [List.setIfInBounds_toArray, List.set_cons_zero, List.set_cons_succ])
              refine takeH (i := 2) 15 ?vye2 rfl (by rfl) (by kernel_rfl) (by kernel_rfl) (by kernel_rfl) (fun _ _ _ h => h) (Or.inl ⟨by rfl, ?hyye2⟩) (by assumption) ?restye2
              case hyye2 => (intro w hSw; (try dsimp only at hSw); go_simp; try (with_reducible rfl))
              (try simp only [List.setIfInBounds_toArray, List.set_cons_zero, List.set_cons_succ])
              refine takeH (i := 3) 16 ?vye3 rfl (by rfl) (by kernel_rfl) (by kernel_rfl) (by kernel_rfl) (fun _ _ _ h => h) (Or.inl ⟨by rfl, ?hyye3⟩) (by assumption) ?restye3
              case hyye3 => (intro w hSw; (try dsimp only at hSw); go_simp; try (with_reducible rfl))
              (try simp only [List.setIfInBounds_toArray, List.set_cons_zero, List.set_cons_succ])
              refine wpAnyH_ready (rs := [4]) (by kernel_rfl) (by simp) (AllReadyH.cons rfl (fun Kq hKq => ?_) AllReadyH.nil)
              go_simp
              go_at_call 17
              refine (element_yes K B I ss A' c' wr.drew Hok.out Hr.out).mono ?_
              rintro e' w1 ⟨rfl, hb1⟩
              go_wp2_with fail
              refine hKq.out _ _ ⟨cellz hb1 (h0), cellz hb1 (h1), cellz hb1 (h2), cellz hb1 (h3), cellz hb1 (g0), cellz hb1 (g1), cellz hb1 (g2), cellz hb1 (g3)⟩ (fun hHeld => ?_)
              clear hKq Kq
              (try simp only [List.setIfInBounds_toArray, List.set_cons_zero, List.set_cons_succ])
              refine takeH (i := 5) 18 ?vye5 rfl (by rfl) (by kernel_rfl) (by kernel_rfl) (by kernel_rfl) (fun _ _ _ h => h) (Or.inl ⟨by rfl, ?hyye5⟩) (by assumption) ?restye5
              case hyye5 => (intro w hSw; (try dsimp only at hSw); go_simp; try (with_reducible rfl))
              (try simp only [List.setIfInBounds_toArray, List.set_cons_zero, List.set_cons_succ])
              refine takeH (i := 6) 19 ?vye6 rfl (by rfl) (by kernel_rfl) (by kernel_rfl) (by kernel_rfl) (fun _ _ _ h => h) (Or.inl ⟨by rfl, ?hyye6⟩) (by assumption) ?restye6
              case hyye6 => (intro w hSw; (try dsimp only at hSw); go_simp; try (with_reducible rfl))
              (try simp only [List.setIfInBounds_toArray, List.set_cons_zero, List.set_cons_succ])
              refine takeH (i := 7) 20 ?vye7 rfl (by rfl) (by kernel_rfl) (by kernel_rfl) (by kernel_rfl) (fun _ _ _ h => h) (Or.inl ⟨by rfl, ?hyye7⟩) (by assumption) ?restye7
              case hyye7 => (intro w hSw; (try dsimp only at hSw); go_simp; try (with_reducible rfl))
              (try simp only [List.setIfInBounds_toArray, List.set_cons_zero, List.set_cons_succ])
              refine takeH (i := 8) 21 ?vye8 rfl (by rfl) (by kernel_rfl) (by kernel_rfl) (by kernel_rfl) (fun _ _ _ h => h) (Or.inl ⟨by rfl, ?hyye8⟩) (by assumption) ?restye8
              case hyye8 => (intro w hSw; (try dsimp only at hSw); go_simp; try (with_reducible rfl))
              (try simp only [List.setIfInBounds_toArray, List.set_cons_zero, List.set_cons_succ])
              refine takeH (i := 9) 22 ?vye9 rfl (by rfl) (by kernel_rfl) (by kernel_rfl) (by kernel_rfl) (fun _ _ _ h => h) (Or.inl ⟨by rfl, ?hyye9⟩) (by assumption) ?restye9
              case hyye9 => (intro w hSw; (try dsimp only at hSw); go_simp; try (with_reducible rfl))
              (try simp only [List.setIfInBounds_toArray, List.set_cons_zero, List.set_cons_succ])
              refine takeH (i := 10) 23 ?vye10 rfl (by rfl) (by kernel_rfl) (by kernel_rfl) (by kernel_rfl) (fun _ _ _ h => h) (Or.inl ⟨by rfl, ?hyye10⟩) (by assumption) ?restye10
              case hyye10 => (intro w hSw; (try dsimp only at hSw); go_simp; try (with_reducible rfl))
              (try simp only [List.setIfInBounds_toArray, List.set_cons_zero, List.set_cons_succ])
              refine takeH (i := 11) 24 ?vye11 rfl (by rfl) (by kernel_rfl) (by kernel_rfl) (by kernel_rfl) (fun _ _ _ h => h) (Or.inl ⟨by rfl, ?hyye11⟩) (by assumption) ?restye11
              case hyye11 => (intro w hSw; (try dsimp only at hSw); go_simp; try (with_reducible rfl))
              (try simp only [List.setIfInBounds_toArray, List.set_cons_zero, List.set_cons_succ])
              refine takeH (i := 12) 25 ?vye12 rfl (by rfl) (by kernel_rfl) (by kernel_rfl) (by kernel_rfl) (fun _ _ _ h => h) (Or.inl ⟨by rfl, ?hyye12⟩) (by assumption) ?restye12
              case hyye12 => (intro w hSw; (try dsimp only at hSw); go_simp; try (with_reducible rfl))
              (try simp only [List.setIfInBounds_toArray, List.set_cons_zero, List.set_cons_succ])
              refine takeH (i := 13) 26 ?vye13 rfl (by rfl) (by kernel_rfl) (by kernel_rfl) (by kernel_rfl) (fun _ _ _ h => h) (Or.inl ⟨by rfl, ?hyye13⟩) (by assumption) ?restye13
              case hyye13 => (intro w hSw; (try dsimp only at hSw); go_simp; try (with_reducible rfl))
              (try simp only [List.setIfInBounds_toArray, List.set_cons_zero, List.set_cons_succ])
              refine takeH (i := 14) 27 ?vye14 rfl (by rfl) (by kernel_rfl) (by kernel_rfl) (by kernel_rfl) (fun _ _ _ h => h) (Or.inl ⟨by rfl, ?hyye14⟩) (by assumption) ?restye14
              case hyye14 => (intro w hSw; (try dsimp only at hSw); go_simp; try (with_reducible rfl))
              (try simp only [List.setIfInBounds_toArray, List.set_cons_zero, List.set_cons_succ])
              refine takeH (i := 15) 28 ?vye15 rfl (by rfl) (by kernel_rfl) (by kernel_rfl) (by kernel_rfl) (fun _ _ _ h => h) (Or.inl ⟨by rfl, ?hyye15⟩) (by assumption) ?restye15
              case hyye15 => (intro w hSw; (try dsimp only at hSw); go_simp; try (with_reducible rfl))
              (try simp only [List.setIfInBounds_toArray, List.set_cons_zero, List.set_cons_succ])
              refine takeH (i := 16) 29 ?vye16 rfl (by rfl) (by kernel_rfl) (by kernel_rfl) (by kernel_rfl) (fun _ _ _ h => h) (Or.inl ⟨by rfl, ?hyye16⟩) (by assumption) ?restye16
              case hyye16 => (intro w hSw; (try dsimp only at hSw); go_simp; try (with_reducible rfl))
              (try simp only [List.setIfInBounds_toArray, List.set_cons_zero, List.set_cons_succ])
              refine takeH (i := 17) 30 ?vye17 rfl (by rfl) (by kernel_rfl) (by kernel_rfl) (by kernel_rfl) (fun _ _ _ h => h) (Or.inl ⟨by rfl, ?hyye17⟩) (by assumption) ?restye17
              case hyye17 => (intro w hSw; (try dsimp only at hSw); go_simp; try (with_reducible rfl))
              (try simp only [List.setIfInBounds_toArray, List.set_cons_zero, List.set_cons_succ])
              refine takeH (i := 18) 31 ?vye18 rfl (by rfl) (by kernel_rfl) (by kernel_rfl) (by kernel_rfl) (fun _ _ _ h => h) (Or.inl ⟨by rfl, ?hyye18⟩) (by assumption) ?restye18
              case hyye18 => (intro w hSw; (try dsimp only at hSw); go_simp; try (with_reducible rfl))
              (try simp only [List.setIfInBounds_toArray, List.set_cons_zero, List.set_cons_succ])
              refine wpAnyH_ready (rs := [19]) (by kernel_rfl) (by simp) (AllReadyH.cons rfl (fun Kq hKq => ?_) AllReadyH.nil)
              go_simp
              go_at_call 18
              refine (follows_is true K2 B2 I2 K B I u2v (.slice A' ss.length c') _ hf).mono ?_
              rintro e' w2 ⟨rfl, hb2⟩
              go_wp2_with fail
              refine hKq.out _ _ ⟨cellz hb2 (hHeld.1), cellz hb2 (hHeld.2.1), cellz hb2 (hHeld.2.2.1), cellz hb2 (hHeld.2.2.2.1), cellz hb2 (hHeld.2.2.2.2.1), cellz hb2 (hHeld.2.2.2.2.2.1), cellz hb2 (hHeld.2.2.2.2.2.2.1), cellz hb2 (hHeld.2.2.2.2.2.2.2)⟩ (fun hHeld => ?_)
              clear hKq Kq
              (try simp only [List.setIfInBounds_toArray, List.set_cons_zero, List.set_cons_succ])
              refine takeH (i := 20) 33 ?vye20 rfl (by rfl) (by kernel_rfl) (by kernel_rfl) (by kernel_rfl) (fun _ _ _ h => h) (Or.inl ⟨by rfl, ?hyye20⟩) (by assumption) ?restye20
              case hyye20 => (intro w hSw; (try dsimp only at hSw); go_simp; try (with_reducible rfl))
              (try simp only [List.setIfInBounds_toArray, List.set_cons_zero, List.set_cons_succ])
              refine takeH (i := 21) 34 ?vye21 rfl (by rfl) (by kernel_rfl) (by kernel_rfl) (by kernel_rfl) (fun _ _ _ h => h) (Or.inl ⟨by rfl, ?hyye21⟩) (by assumption) ?restye21
              case hyye21 => (intro w hSw; (try dsimp only at hSw); go_simp; try (with_reducible rfl))
              (try simp only [List.setIfInBounds_toArray, List.set_cons_zero, List.set_cons_succ])
              refine takeH (i := 22) 35 ?vye22 rfl (by rfl) (by kernel_rfl) (by kernel_rfl) (by kernel_rfl) (fun _ _ _ h => h) (Or.inl ⟨by rfl, ?hyye22⟩) (by assumption) ?restye22
              case hyye22 => (intro w hSw; (try dsimp only at hSw); go_simp; try (with_reducible rfl))
              (try simp only [List.setIfInBounds_toArray, List.set_cons_zero, List.set_cons_succ])
              refine wpAnyH_done (by kernel_rfl) ?_ _
              have hB := Lib.hid (hbw.trans (((show Below wr.heap.size wr w1 from ⟨hb1.os, hb1.tape, hb1.output, hb1.size, hb1.block⟩).trans (hb2.mono hb1.size)).mono hsz))
              clear hb1 hb2 hHeld h0 h1 h2 h3 g0 g1 g2 g3
              go_wp2
              go_roundw
              case rel => exact ⟨j + 1 + 1, by omega, by go_num, HN.out Hok.out, hB.out⟩
              case measure => simp [intOf]; omega
        · have Hok := Lib.hid hok
          clear hok
          go_wp2_with fail
          refine wp_region_held_drew (S := (fun w' => w'.cell? (ad.add (k * 4)) = some (.int .i64 K) ∧ w'.cell? ⟨(ad.add (k * 4)).block, (ad.add (k * 4)).off + 1, none⟩ = some (.int .i64 B) ∧ w'.cell? ⟨(ad.add (k * 4)).block, (ad.add (k * 4)).off + 2, none⟩ = some (.int .i64 I) ∧ w'.cell? ⟨(ad.add (k * 4)).block, (ad.add (k * 4)).off + 3, none⟩ = some (.slice A' ss.length c'))) (by kernel_rfl) ⟨h0, h1, h2, h3⟩ (fun hHeld => ?_)
          refine takeH (i := 0) 13 ?vno0 rfl (by rfl) (by kernel_rfl) (by kernel_rfl) (by kernel_rfl) (fun _ _ _ h => h) (Or.inl ⟨by rfl, ?hyno0⟩) (by assumption) ?restno0
          case hyno0 => (intro w hSw; (try dsimp only at hSw); go_simp; try (with_reducible rfl))
          (try simp only [List.setIfInBounds_toArray, List.set_cons_zero, List.set_cons_succ])
          refine takeH (i := 1) 14 ?vno1 rfl (by rfl) (by kernel_rfl) (by kernel_rfl) (by kernel_rfl) (fun _ _ _ h => h) (Or.inl ⟨by rfl, ?hyno1⟩) (by assumption) ?restno1
          case hyno1 => (intro w hSw; (try dsimp only at hSw); go_simp; try (with_reducible rfl))
          (try simp only [List.setIfInBounds_toArray, List.set_cons_zero, List.set_cons_succ])
          refine takeH (i := 2) 15 ?vno2 rfl (by rfl) (by kernel_rfl) (by kernel_rfl) (by kernel_rfl) (fun _ _ _ h => h) (Or.inl ⟨by rfl, ?hyno2⟩) (by assumption) ?restno2
          case hyno2 => (intro w hSw; (try dsimp only at hSw); go_simp; try (with_reducible rfl))
          (try simp only [List.setIfInBounds_toArray, List.set_cons_zero, List.set_cons_succ])
          refine takeH (i := 3) 16 ?vno3 rfl (by rfl) (by kernel_rfl) (by kernel_rfl) (by kernel_rfl) (fun _ _ _ h => h) (Or.inl ⟨by rfl, ?hyno3⟩) (by assumption) ?restno3
          case hyno3 => (intro w hSw; (try dsimp only at hSw); go_simp; try (with_reducible rfl))
          (try simp only [List.setIfInBounds_toArray, List.set_cons_zero, List.set_cons_succ])
          refine wpAnyH_ready (rs := [4]) (by kernel_rfl) (by simp) (AllReadyH.cons rfl (fun Kq hKq => ?_) AllReadyH.nil)
          go_simp
          go_at_call 17
          refine (element_not K B I ss A' c' wr.drew Hok.out Hr.out).mono ?_
          rintro e' w1 ⟨rfl, hb1⟩
          go_wp2_with fail
          refine hKq.out _ _ ⟨cellz hb1 (h0), cellz hb1 (h1), cellz hb1 (h2), cellz hb1 (h3)⟩ (fun hHeld => ?_)
          clear hKq Kq
          (try simp only [List.setIfInBounds_toArray, List.set_cons_zero, List.set_cons_succ])
          refine takeH (i := 5) 18 ?vno5 rfl (by rfl) (by kernel_rfl) (by kernel_rfl) (by kernel_rfl) (fun _ _ _ h => h) (Or.inl ⟨by rfl, ?hyno5⟩) (by assumption) ?restno5
          case hyno5 => (intro w hSw; (try dsimp only at hSw); go_simp; try (with_reducible rfl))
          (try simp only [List.setIfInBounds_toArray, List.set_cons_zero, List.set_cons_succ])
          refine takeH (i := 6) 19 ?vno6 rfl (by rfl) (by kernel_rfl) (by kernel_rfl) (by kernel_rfl) (fun _ _ _ h => h) (Or.inl ⟨by rfl, ?hyno6⟩) (by assumption) ?restno6
          case hyno6 => (intro w hSw; (try dsimp only at hSw); go_simp; try (with_reducible rfl))
          (try simp only [List.setIfInBounds_toArray, List.set_cons_zero, List.set_cons_succ])
          refine takeH (i := 7) 20 undef rfl (by rfl) (by kernel_rfl) (by kernel_rfl) (by kernel_rfl) (fun _ _ _ h => h) (Or.inr ⟨by rfl, rfl⟩) (by assumption) ?_
          (try simp only [List.setIfInBounds_toArray, List.set_cons_zero, List.set_cons_succ])
          refine takeH (i := 8) 21 undef rfl (by rfl) (by kernel_rfl) (by kernel_rfl) (by kernel_rfl) (fun _ _ _ h => h) (Or.inr ⟨by rfl, rfl⟩) (by assumption) ?_
          (try simp only [List.setIfInBounds_toArray, List.set_cons_zero, List.set_cons_succ])
          refine takeH (i := 9) 22 undef rfl (by rfl) (by kernel_rfl) (by kernel_rfl) (by kernel_rfl) (fun _ _ _ h => h) (Or.inr ⟨by rfl, rfl⟩) (by assumption) ?_
          (try simp only [List.setIfInBounds_toArray, List.set_cons_zero, List.set_cons_succ])
          refine takeH (i := 10) 23 undef rfl (by rfl) (by kernel_rfl) (by kernel_rfl) (by kernel_rfl) (fun _ _ _ h => h) (Or.inr ⟨by rfl, rfl⟩) (by assumption) ?_
          (try simp only [List.setIfInBounds_toArray, List.set_cons_zero, List.set_cons_succ])
          refine takeH (i := 11) 24 undef rfl (by rfl) (by kernel_rfl) (by kernel_rfl) (by kernel_rfl) (fun _ _ _ h => h) (Or.inr ⟨by rfl, rfl⟩) (by assumption) ?_
          (try simp only [List.setIfInBounds_toArray, List.set_cons_zero, List.set_cons_succ])
          refine takeH (i := 12) 25 undef rfl (by rfl) (by kernel_rfl) (by kernel_rfl) (by kernel_rfl) (fun _ _ _ h => h) (Or.inr ⟨by rfl, rfl⟩) (by assumption) ?_
          (try simp only [List.setIfInBounds_toArray, List.set_cons_zero, List.set_cons_succ])
          refine takeH (i := 13) 26 undef rfl (by rfl) (by kernel_rfl) (by kernel_rfl) (by kernel_rfl) (fun _ _ _ h => h) (Or.inr ⟨by rfl, rfl⟩) (by assumption) ?_
          (try simp only [List.setIfInBounds_toArray, List.set_cons_zero, List.set_cons_succ])
          refine takeH (i := 14) 27 undef rfl (by rfl) (by kernel_rfl) (by kernel_rfl) (by kernel_rfl) (fun _ _ _ h => h) (Or.inr ⟨by rfl, rfl⟩) (by assumption) ?_
          (try simp only [List.setIfInBounds_toArray, List.set_cons_zero, List.set_cons_succ])
          refine takeH (i := 15) 28 undef rfl (by rfl) (by kernel_rfl) (by kernel_rfl) (by kernel_rfl) (fun _ _ _ h => h) (Or.inr ⟨by rfl, rfl⟩) (by assumption) ?_
          (try simp only [List.setIfInBounds_toArray, List.set_cons_zero, List.set_cons_succ])
          refine takeH (i := 16) 29 undef rfl (by rfl) (by kernel_rfl) (by kernel_rfl) (by kernel_rfl) (fun _ _ _ h => h) (Or.inr ⟨by rfl, rfl⟩) (by assumption) ?_
          (try simp only [List.setIfInBounds_toArray, List.set_cons_zero, List.set_cons_succ])
          refine takeH (i := 17) 30 undef rfl (by rfl) (by kernel_rfl) (by kernel_rfl) (by kernel_rfl) (fun _ _ _ h => h) (Or.inr ⟨by rfl, rfl⟩) (by assumption) ?_
          (try simp only [List.setIfInBounds_toArray, List.set_cons_zero, List.set_cons_succ])
          refine takeH (i := 18) 31 undef rfl (by rfl) (by kernel_rfl) (by kernel_rfl) (by kernel_rfl) (fun _ _ _ h => h) (Or.inr ⟨by rfl, rfl⟩) (by assumption) ?_
          (try simp only [List.setIfInBounds_toArray, List.set_cons_zero, List.set_cons_succ])
          refine takeH (i := 19) 32 undef rfl (by rfl) (by kernel_rfl) (by kernel_rfl) (by kernel_rfl) (fun _ _ _ h => h) (Or.inr ⟨by rfl, rfl⟩) (by assumption) ?_
          (try simp only [List.setIfInBounds_toArray, List.set_cons_zero, List.set_cons_succ])
          refine takeH (i := 20) 33 undef rfl (by rfl) (by kernel_rfl) (by kernel_rfl) (by kernel_rfl) (fun _ _ _ h => h) (Or.inr ⟨by rfl, rfl⟩) (by assumption) ?_
          (try simp only [List.setIfInBounds_toArray, List.set_cons_zero, List.set_cons_succ])
          refine takeH (i := 21) 34 undef rfl (by rfl) (by kernel_rfl) (by kernel_rfl) (by kernel_rfl) (fun _ _ _ h => h) (Or.inr ⟨by rfl, rfl⟩) (by assumption) ?_
          (try simp only [List.setIfInBounds_toArray, List.set_cons_zero, List.set_cons_succ])
          refine takeH (i := 22) 35 ?vno22 rfl (by rfl) (by kernel_rfl) (by kernel_rfl) (by kernel_rfl) (fun _ _ _ h => h) (Or.inl ⟨by rfl, ?hyno22⟩) (by assumption) ?restno22
          case hyno22 => (intro w hSw; (try dsimp only at hSw); go_simp; try (with_reducible rfl))
          (try simp only [List.setIfInBounds_toArray, List.set_cons_zero, List.set_cons_succ])
          refine wpAnyH_done (by kernel_rfl) ?_ _
          have hB := Lib.hid (hbw.trans ((show Below wr.heap.size wr w1 from ⟨hb1.os, hb1.tape, hb1.output, hb1.size, hb1.block⟩).mono hsz))
          clear hb1 hHeld h0 h1 h2 h3
          go_wp2
          go_ret
          exact ⟨⟨_, rfl, fun h => by simp at h⟩, hB.out⟩
      · go_wp2
        go_ret
        exact ⟨⟨_, rfl, fun _ => ⟨hm, fun j e h => HA.out j e (by have := (List.getElem?_eq_some_iff.1 h).1; omega) h⟩⟩, hbw⟩
  · have hd : decide ((100 : Int) < (E.length : Nat)) = true := decide_eq_true (by omega)
    go_enter Tryd.func10, Tryd.ntmps10
    go_wp2
    go_ret
    exact ⟨⟨_, rfl, fun h => by simp at h⟩, Below.refl _ _⟩
end Go.Proofs.YtdjnknkdnacbnaaDoor
