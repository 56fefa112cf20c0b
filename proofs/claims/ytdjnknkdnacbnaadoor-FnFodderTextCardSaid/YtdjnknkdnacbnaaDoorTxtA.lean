/-
  Fodder: impl.fodder makes a list of the own (as in XFodD). Conditions: none.
-/
import Derived.Test.YtdjnknkdnacbnaaDoorFodC
namespace Go.Proofs.YtdjnknkdnacbnaaDoor
open Go.RowKit
set_option linter.unusedVariables false

theorem info_str : (Tryd.prog.info? 9).map (fun i => (i.zero, i.size, i.bytes)) = some (some (.string ⟨#[]⟩), 1, 16) := by kernel_rfl
theorem info_elA : (Tryd.prog.info? 45).map (fun i => (i.zero, i.size, i.bytes)) = some (some (.agg #[.slice none 0 0, .int .i64 0, .int .i64 0, .int .i64 0]), 4, 48) := by kernel_rfl
theorem info_elI : (Tryd.prog.info? 30).map (fun i => (i.zero, i.size, i.bytes)) = some (some (.agg #[.int .i64 0, .int .i64 0, .int .i64 0, .slice none 0 0]), 4, 48) := by kernel_rfl

theorem own_step {t : TypeId} {pk : El → Value → List Value} (ht : (9 : TypeId) ≠ t) {wr W4 W5 : World} {base k : Nat} {E : List El} {e : El} {us : List Value} {out out' u : Value}
    (ho : wr.ownsRow base t 4 out k (flat pk (E.take k) us)) (hc : Coms wr base us (E.take k)) (he : E[k]? = some e)
    (hb : Below wr.heap.size wr W4) (hu : W4.ownsRow base 9 1 u e.text.length (strs e.text)) (hub : ∀ b, u.ownBlock = some b → wr.heap.size ≤ b)
    (ho' : W5.ownsRow base t 4 out' (k + 1) (flat pk (E.take k) us ++ pk e u)) (hg : W4.grownBy W5 out.ownBlock) :
    ∃ us', W5.ownsRow base t 4 out' (k + 1) (flat pk (E.take (k + 1)) us') ∧ Coms W5 base us' (E.take (k + 1)) := by
  have hk : k < E.length := (List.getElem?_eq_some_iff.1 he).1
  have hE : E.take (k + 1) = E.take k ++ [e] := by
    rw [List.take_succ_eq_append_getElem hk]
    have := (List.getElem?_eq_some_iff.1 he).2
    rw [this]
  have hc4 : Coms W4 base (us ++ [u]) (E.take k ++ [e]) := (hc.below hb).snoc hu (fun j v a b hv ha hb' => by have := (hc.lt hv ha).2; have := hub b hb'; omega)
  have ho4 : W4.ownsRow base t 4 out k (flat pk (E.take k) us) := ownsRow_below ho hb
  refine ⟨us ++ [u], ?_, ?_⟩
  · rw [hE, flat_snoc pk hc.1]
    exact ho'
  · rw [hE]
    refine hc4.kept hg fun j v hv => ?_
    have hj : j < (E.take k ++ [e]).length := by have := (List.getElem?_eq_some_iff.1 hv).1; have := hc4.1; omega
    exact blk_ne (hc4.2.1 j v _ hv (List.getElem?_eq_getElem hj)) ho4 ht
theorem strs_one (ss : List ByteArray) : ∀ u ∈ strs ss, u.oneCell' = true := by
  intro u hu
  simp only [strs, List.mem_map] at hu
  obtain ⟨s, _, rfl⟩ := hu
  rfl

theorem own_empty (W : World) (n base : Nat) (t : TypeId) (hb : base ≤ W.heap.size) (hn : W.heap.size = n) : (W.alloc (.cells #[] t)).ownsRow base t 1 (.slice (some ⟨n, 0, none⟩) 0 0) 0 [] := by
  subst hn
  exact World.ownsRow_lit W #[] 0 hb (Nat.zero_le _) rfl

theorem own_form {w : World} {base n size : Nat} {t : TypeId} {v : Value} {xs : List Value} (h : w.ownsRow base t size v n xs) : ∃ A c, v = .slice A n c := by
  rcases h.2 with ⟨rfl, rfl⟩ | ⟨g, cap, cur, rfl, _⟩
  · exact ⟨_, _, rfl⟩
  · exact ⟨_, _, rfl⟩

theorem own_thru {wr W2 w1 : World} {base n size g : Nat} {t : TypeId} {v : Value} {xs : List Value} (ho : wr.ownsRow base t size v n xs) (hb : Below wr.heap.size wr W2) (hg : W2.grownBy w1 (some g)) (hgl : wr.heap.size ≤ g) : w1.ownsRow base t size v n xs :=
  (ownsRow_below ho hb).kept hg (by
    cases h : v.ownBlock with
    | none => exact .inl rfl
    | some a => right; have := (ho.lt a h).2; intro e; injection e; omega)

def MadeA (w : World) (E : List El) (e : Ending) (w' : World) : Prop := ∃ v, e = .returned (.tuple #[v, .bool true]) ∧ OwnF 45 cellsA w' w.heap.size v E ∧ Below w.heap.size w w'

set_option maxRecDepth 100000 in
set_option maxHeartbeats 800000 in
theorem make_A (A : Option Addr) (c : Nat) (E : List El) (w : World) (h : Els cellsI w A E) (hE : E.length ≤ 200 ∧ ∀ (k : Nat) (e : El), E[k]? = some e → OkEl e) : Calls Tryd.prog 11 #[.slice A E.length c] w (MadeA w E) := by
  obtain ⟨i9, hi9, hz9, hz9', hz9''⟩ := info_parts info_str
  obtain ⟨i60, hi60, hz60, hz60', hz60''⟩ := info_parts info_elA
  have hE1 := hE.1
  have HE := Lib.hid hE.2
  clear hE
  have HR := Lib.hid h
  clear h
  go_enter Tryd.func11, Tryd.ntmps11
  go_wp2
  go_loopw [4, 9] (fun out i wr => ∃ k : Nat, k ≤ E.length ∧ i = .int .i64 k ∧ (∃ us, wr.ownsRow w.heap.size 45 4 out k (flat cellsA (E.take k) us) ∧ Coms wr w.heap.size us (E.take k)) ∧ Below w.heap.size w wr) (fun _ i _ => E.length - (intOf i).toNat)
  case atStart => exact ⟨0, by omega, rfl, ⟨[], World.ownsRow_nil _ _ _ _, Coms.nil _ _⟩, Below.refl _ _⟩
  case round =>
    obtain ⟨k, hk, rfl, ⟨us, ho, hcs⟩, hbw⟩ := hrel
    by_cases hlt : k < E.length
    · obtain ⟨e, he⟩ : ∃ e, E[k]? = some e := ⟨_, List.getElem?_eq_getElem hlt⟩
      obtain ⟨ad, u, rfl, hb, hu, hc⟩ := HR.out.below hbw k e he
      obtain ⟨h0, h1, h2, h3⟩ := four_of hc
      have hok := HE.out k e he
      have Hst := Lib.hid (fun W4 W5 u' out' => own_step (pk := cellsA) (W4 := W4) (W5 := W5) (u := u') (out' := out') (by decide : (9 : TypeId) ≠ 45) ho hcs he)
      obtain ⟨K, B, I, ss⟩ := e
      have hK : 0 ≤ K ∧ K ≤ 2 := by rcases ok_k hok with h | h | h <;> omega
      obtain ⟨hK0, hK2⟩ := hK
      have hss : ss.length ≤ 20 := hok.2.2.2.2.1
      simp only at h0 h1 h2 h3 hu
      obtain ⟨A', c', rfl, hlc, hr⟩ := hu
      have Hr := Lib.hid hr
      have hsz := hbw.size
      have Ho := Lib.hid ho
      have hog := Lib.hid ho.lt
      clear he hc hr hok ho hcs
      go_wp2
      go_region_held3 (fun w' => w'.cell? ⟨wr.heap.size, 0, none⟩ = some (.int .i64 K) ∧ w'.cell? ⟨wr.heap.size, 1, none⟩ = some (.int .i64 B) ∧ w'.cell? ⟨wr.heap.size, 2, none⟩ = some (.int .i64 I) ∧ w'.cell? ⟨wr.heap.size, 3, none⟩ = some (.slice A' ss.length c'))
        (first
          | go_keep
          | (go_split_ands
             have kk := fun i => hg2.cell_far ⟨wr.heap.size, i, none⟩ (by simp; omega) (fun e => by have := hog.out _ e.symm; simp at this)
             refine ⟨?_, ?_, ?_, ?_⟩ <;> (rw [kk]; first | assumption | go_keep))
          | (go_split_ands
             refine ⟨?_, ?_, ?_, ?_⟩ <;> (rw [hg1.cell_far _ (by simp; omega) (by simp [Value.ownBlock])]; assumption)))
        (first
          | ((refine step_append_any _ (by rfl) (.tmp 28) (.tmp 30) _ (by rfl) w.heap.size 9 i9 _ 1 16 Tryd.underlying28 hi9 hz9 hz9' hz9'' rfl (by omega) (.slice (some ⟨wr.heap.size + 1, 0, none⟩) 0 0) 0 [] (by rfl)
               (own_empty _ _ _ _ (by simp; omega) (by simp)) wr.heap.size A' ss.length c' (strs ss) (by rfl) (Hr.out.below ((((Below.refl _ _).alloc (Nat.le_refl _) _).alloc (by simp) _).drew)) (strs_one ss) (by simp only [maxLen]; omega) (by omega) (by simp; omega) ?_; intro v1 w1 hown1 hg1 hat1; simp only [Nat.zero_add, List.nil_append] at hown1; have hs1 := hg1.size; simp at hs1; obtain ⟨A1, c1, rfl⟩ := own_form hown1))
          | ((refine step_append_lies _ (by rfl) (.tmp 21) (.tmp 33) _ (by rfl) w.heap.size 45 i60 _ 4 48 Tryd.underlying34 hi60 hz60 hz60' hz60'' rfl (by omega) u4 k (flat cellsA (E.take k) us) (by rfl)
               ((own_thru Ho.out (((Below.refl _ _).alloc (Nat.le_refl _) _).alloc (by simp) _).drew hg1 (by show _ ≤ wr.heap.size + 1; omega)).alloc _) ⟨w1.heap.size, 0, none⟩ 1 1 [.slice A1 ss.length c1, .int .i64 K, .int .i64 B, .int .i64 I] (by rfl) (by rfl)
               (World.news_of_block (cs := #[.slice A1 ss.length c1, .int .i64 K, .int .i64 B, .int .i64 I]) (t := 45) (fr := (0, 0)) (heap_alloc_new w1 _)) (by simp [Value.oneCell'])
               (by omega) (by simp only [maxLen]; omega) (by omega) (by have := hg1.size; simp at this ⊢; omega) (w1.heap.size + 1) (by simp) ?_; intro g2 cap2 w2 hown2 hg2 hat2 hlt2)))
      have hb4 : Below wr.heap.size wr (w1.alloc (.cells #[.slice A1 ss.length c1, .int .i64 K, .int .i64 B, .int .i64 I] 45)) :=
        (((((Below.refl _ _).alloc (Nat.le_refl _) _).alloc (by simp) _).drew).grown hg1 (by simp; omega) (by simp [Value.ownBlock])).alloc (by omega) _
      have hub : ∀ b, (Value.slice A1 ss.length c1).ownBlock = some b → wr.heap.size ≤ b := by
        intro b hb
        rcases hat1 with h | h <;> rw [h] at hb <;> simp [Value.ownBlock] at hb <;> omega
      have hB := Lib.hid (hbw.trans ((hb4.mono hsz).grown hg2 (by simp; omega) (fun a ha => (hog.out a ha).1)))
      have HN := Lib.hid (Hst.out _ w2 _ _ hb4 (hown1.alloc _) hub hown2 hg2)
      clear hb4 hub Hst Ho hog hown1 hown2 hg1 hg2 hat1 hat2
      go_wp2
      go_roundw
      case rel => exact ⟨k + 1, by omega, by go_num, HN.out, hB.out⟩
      case measure => simp [intOf]; omega
    · obtain rfl : k = E.length := by omega
      rw [List.take_length] at ho hcs
      have HN : Hid (OwnF 45 cellsA wr w.heap.size u4 E) := ⟨us, ho, hcs⟩
      have HB := Lib.hid hbw
      clear ho hcs hbw
      go_wp2
      go_ret2
      exact ⟨_, rfl, HN.out, HB.out⟩
end Go.Proofs.YtdjnknkdnacbnaaDoor
