/-
  Fodder: sameElement and sameFodder say yes of what is the same. Conditions: none.
-/
import Derived.Test.YtdjnknkdnacbnaaFodE
namespace Go.Proofs.Ytdjnknkdnacbnaa
open Go.RowKit
set_option linter.unusedVariables false
set_option linter.unusedSimpArgs false

set_option maxRecDepth 100000 in
set_option maxHeartbeats 600000 in
theorem same_el (K B I : Int) (ss : List ByteArray) (A A' : Option Addr) (c c' : Nat) (w : World) (hm : ss.length ≤ 20) (h : Reads w w.heap.size 1 A ss.length (strs ss)) (h' : Reads w w.heap.size 1 A' ss.length (strs ss)) :
    Calls Try.prog 20 #[.agg #[.int .i64 K, .int .i64 B, .int .i64 I, .slice A ss.length c], .agg #[.int .i64 K, .int .i64 B, .int .i64 I, .slice A' ss.length c']] w fun e w' => e = .returned (.bool true) ∧ Below w.heap.size w w' := by
  have HR := Lib.hid h
  have HR' := Lib.hid h'
  clear h h'
  go_enter Try.func20, Try.ntmps20
  go_wp2
  go_loopw [5] (fun i wr => ∃ k : Nat, k ≤ ss.length ∧ i = .int .i64 k ∧ ∃ n, wr = ((w.alloc (.cells #[.int .i64 K, .int .i64 B, .int .i64 I, .slice A ss.length c] 32)).alloc (.cells #[.int .i64 K, .int .i64 B, .int .i64 I, .slice A' ss.length c'] 32)).drewN n) (fun i _ => ss.length - (intOf i).toNat)
  case atStart => exact ⟨0, by omega, rfl, 0, rfl⟩
  case round =>
    obtain ⟨k, hk, rfl, n, rfl⟩ := hrel
    by_cases hlt : k < ss.length
    · obtain ⟨ad, s, rfl, hb, hs, hc⟩ := HR.out.line hlt
      obtain ⟨ad', s', rfl, hb', hs', hc'⟩ := HR'.out.line hlt
      obtain rfl : s = s' := by rw [hs] at hs'; exact Option.some.inj hs'
      have z0 : (0 : Int) ≤ (k : Int) := by omega
      have z1 : (k : Int) < (ss.length : Int) := by omega
      have d1 := (World.cell?_alloc_lt (w.alloc (.cells #[.int .i64 K, .int .i64 B, .int .i64 I, .slice (some ad) ss.length c] 32)) (.cells #[.int .i64 K, .int .i64 B, .int .i64 I, .slice (some ad') ss.length c'] 32) (ad.add k) (by rw [block_of_add]; simp; omega)).trans ((World.cell?_alloc_lt w (.cells #[.int .i64 K, .int .i64 B, .int .i64 I, .slice (some ad) ss.length c] 32) (ad.add k) (by rw [block_of_add]; exact hb)).trans hc)
      have d2 := (World.cell?_alloc_lt (w.alloc (.cells #[.int .i64 K, .int .i64 B, .int .i64 I, .slice (some ad) ss.length c] 32)) (.cells #[.int .i64 K, .int .i64 B, .int .i64 I, .slice (some ad') ss.length c'] 32) (ad'.add k) (by rw [block_of_add]; simp; omega)).trans ((World.cell?_alloc_lt w (.cells #[.int .i64 K, .int .i64 B, .int .i64 I, .slice (some ad) ss.length c] 32) (ad'.add k) (by rw [block_of_add]; exact hb')).trans hc')
      clear hs hs' hc hc'
      go_wp2
      go_quiet (fail)
      go_wp2
      go_roundw
      case rel => exact ⟨k + 1, by omega, by go_num, _, rfl⟩
      case measure => simp [intOf]; omega
    · go_wp2
      go_ret
      exact ⟨rfl, ((((Below.refl _ _).alloc (Nat.le_refl _) _).alloc (by simp) _).trans (by exact ⟨rfl, rfl, rfl, Nat.le_refl _, fun _ _ => rfl⟩))⟩

set_option maxRecDepth 100000 in
set_option maxHeartbeats 800000 in
theorem same_fod (A A' : Option Addr) (c c' : Nat) (E : List El) (w : World) (hm : E.length ≤ 200) (ht : ∀ (k : Nat) (e : El), E[k]? = some e → e.text.length ≤ 20) (h : Els cellsI w A E) (h' : Els cellsI w A' E) :
    Calls Try.prog 10 #[.slice A E.length c, .slice A' E.length c'] w fun e w' => e = .returned (.bool true) ∧ Below w.heap.size w w' := by
  have HR := Lib.hid h
  have HR' := Lib.hid h'
  have HT := Lib.hid ht
  clear h h' ht
  go_enter Try.func10, Try.ntmps10
  go_wp2
  go_loopw [5] (fun i wr => ∃ k : Nat, k ≤ E.length ∧ i = .int .i64 k ∧ Below w.heap.size w wr) (fun i _ => E.length - (intOf i).toNat)
  case atStart => exact ⟨0, by omega, rfl, Below.refl _ _⟩
  case round =>
    obtain ⟨k, hk, rfl, hbw⟩ := hrel
    by_cases hlt : k < E.length
    · obtain ⟨e, he⟩ : ∃ e, E[k]? = some e := ⟨_, List.getElem?_eq_getElem hlt⟩
      obtain ⟨ad, u, rfl, hb, hu, hc⟩ := HR.out.below hbw k e he
      obtain ⟨h0, h1, h2, h3⟩ := four_of hc
      obtain ⟨ad', u', rfl, hb', hu', hc'⟩ := HR'.out.below hbw k e he
      obtain ⟨g0, g1, g2, g3⟩ := four_of hc'
      have hss := HT.out k e he
      obtain ⟨K, B, I, ss⟩ := e
      simp only at h0 h1 h2 h3 g0 g1 g2 g3 hu hu' hss
      obtain ⟨A1, c1, rfl, _, hr1⟩ := hu
      obtain ⟨A2, c2, rfl, _, hr2⟩ := hu'
      have HR1 := Lib.hid hr1
      have HR2 := Lib.hid hr2
      have z0 : (0 : Int) ≤ (k : Int) := by omega
      have z1 : (k : Int) < (E.length : Int) := by omega
      have hsz := hbw.size
      clear he hc hc' hr1 hr2
      go_wp2
      go_region_held3 (fun w' => w'.cell? (ad.add (k * 4)) = some (.int .i64 K) ∧ w'.cell? ⟨(ad.add (k * 4)).block, (ad.add (k * 4)).off + 1, none⟩ = some (.int .i64 B) ∧ w'.cell? ⟨(ad.add (k * 4)).block, (ad.add (k * 4)).off + 2, none⟩ = some (.int .i64 I) ∧ w'.cell? ⟨(ad.add (k * 4)).block, (ad.add (k * 4)).off + 3, none⟩ = some (.slice A1 ss.length c1) ∧
          w'.cell? (ad'.add (k * 4)) = some (.int .i64 K) ∧ w'.cell? ⟨(ad'.add (k * 4)).block, (ad'.add (k * 4)).off + 1, none⟩ = some (.int .i64 B) ∧ w'.cell? ⟨(ad'.add (k * 4)).block, (ad'.add (k * 4)).off + 2, none⟩ = some (.int .i64 I) ∧ w'.cell? ⟨(ad'.add (k * 4)).block, (ad'.add (k * 4)).off + 3, none⟩ = some (.slice A2 ss.length c2))
        (first
          | go_keep
          | (go_split_ands; exact ⟨cell_below (w := wr.drew) h0 hb1, cell_below (w := wr.drew) h1 hb1, cell_below (w := wr.drew) h2 hb1, cell_below (w := wr.drew) h3 hb1, cell_below (w := wr.drew) g0 hb1, cell_below (w := wr.drew) g1 hb1, cell_below (w := wr.drew) g2 hb1, cell_below (w := wr.drew) g3 hb1⟩))
        ((go_at_call 20; refine (same_el K B I ss A1 A2 c1 c2 _ hss HR1.out.drew HR2.out.drew).mono ?_; rintro e' w1 ⟨rfl, hb1⟩))
      have hB := Lib.hid (hbw.trans ((show Below wr.heap.size wr w1 from ⟨hb1.os, hb1.tape, hb1.output, hb1.size, hb1.block⟩).mono hsz))
      clear hb1 h0 h1 h2 h3 g0 g1 g2 g3
      go_wp2
      go_roundw
      case rel => exact ⟨k + 1, by omega, by go_num, hB.out⟩
      case measure => simp [intOf]; omega
    · go_wp2
      go_ret
      exact ⟨rfl, hbw⟩

theorem Els.prefix_ {pk : El → Value → List Value} {w : World} {A : Option Addr} {E F : List El} (h : Els pk w A (E ++ F)) : Els pk w A E := fun k e he =>
  h k e (by rw [List.getElem?_append_left (List.getElem?_eq_some_iff.1 he).1]; exact he)
end Go.Proofs.Ytdjnknkdnacbnaa
