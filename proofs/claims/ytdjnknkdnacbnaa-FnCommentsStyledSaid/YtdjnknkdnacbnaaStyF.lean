/-
  EnforceCommentStyle of a list of elements. Conditions: none.
-/
import Derived.Test.YtdjnknkdnacbnaaStyE
namespace Go.Proofs.Ytdjnknkdnacbnaa
open Go.RowKit
set_option linter.unusedVariables false
set_option linter.unusedSimpArgs false

def txt (st : Int) (k j : Nat) (e : El) : List ByteArray := if j < k then (sty st e).text else e.text
structure FodInv (base q f : Nat) (st : Int) (E : List El) (us : List Value) (v : Value) (n k : Nat) (w wr : World) : Prop where
  below : Below base w wr
  cell : wr.cell? ⟨f, 0, none⟩ = some v
  row : wr.ownsRow base 60 4 v n (flat cellsA E us)
  coms : ∀ (j : Nat) (u : Value) (e : El), us[j]? = some u → E[j]? = some e → wr.ownsRow base 9 1 u (txt st k j e).length (strs (txt st k j e))
  style : wr.cell? ⟨q, 3, none⟩ = some (.int .i64 st)
  seen : ∃ b, wr.cell? ⟨q, 12, none⟩ = some (.bool b) ∧ (k = 0 → b = false)
  free : wr.frozen? ⟨q, 12, none⟩ = false
  size : w.heap.size ≤ wr.heap.size

theorem FodInv.step {base q f : Nat} {st : Int} {E : List El} {us : List Value} {v u : Value} {n k : Nat} {e : El} {w wr w' : World} {ee : Ending} (h : FodInv base q f st E us v n k w wr) (he : E[k]? = some e) (hu : us[k]? = some u)
    (ht : Turned wr base q u st (sty st e).text ee w') (hfq : f ≠ q) (hqb : base ≤ q) (hbase : base ≤ w.heap.size)
    (hq : ∀ (j : Nat) (u : Value), us[j]? = some u → u.ownBlock ≠ some q) (hf : ∀ (j : Nat) (u : Value), us[j]? = some u → u.ownBlock ≠ some f) (hvq : v.ownBlock ≠ some q) (hl : us.length = E.length) (hfl : f < w.heap.size)
    (hinc : ∀ (j k : Nat) (u v : Value) (a b : Nat), j < k → us[j]? = some u → us[k]? = some v → u.ownBlock = some a → v.ownBlock = some b → a < b) : FodInv base q f st E us v n (k + 1) w w' := by
  obtain ⟨_, hb, h3, h12, ho, hbut⟩ := ht
  have hou := h.coms k u e hu he
  refine ⟨?_, ?_, ?_, ?_, h3, ?_, h12, ?_⟩
  · refine ⟨hbut.os.trans h.below.os, hbut.tape.trans h.below.tape, hbut.output.trans h.below.output, Nat.le_trans h.below.size hbut.size, fun i hi => ?_⟩
    have hiw : i < wr.heap.size := by have := h.size; omega
    refine (hbut.block i hiw ?_).trans (h.below.block i hi)
    rintro (rfl | hP)
    · omega
    · have := (hou.lt _ hP).1; omega
  · refine (hbut.cell (p := ⟨f, 0, none⟩) (by have := h.size; show f < _; omega) ?_).trans h.cell
    rintro (hP | hP)
    · exact hfq hP
    · exact hf k u hu hP
  · refine ownsRow_but h.row hbut fun g hg hP => ?_
    rcases hP with rfl | hP
    · exact hvq hg
    · have := blk_ne hou h.row (by decide)
      rw [hP, hg] at this
      simp at this
  · intro j u' e' hu' he'
    by_cases hjk : j = k
    · subst hjk
      rw [hu] at hu'; injection hu' with hu'; subst hu'
      rw [he] at he'; injection he' with he'; subst he'
      have : txt st (j + 1) j e = (sty st e).text := if_pos (by omega)
      rw [this]
      exact ho
    · have : txt st (k + 1) j e' = txt st k j e' := by
        unfold txt
        by_cases hlt : j < k
        · rw [if_pos hlt, if_pos (by omega)]
        · rw [if_neg hlt, if_neg (by omega)]
      rw [this]
      refine ownsRow_but (h.coms j u' e' hu' he') hbut fun g hg hP => ?_
      rcases hP with rfl | hP
      · exact hq j u' hu' hg
      · rcases Nat.lt_or_gt_of_ne hjk with hlt | hlt
        · have := hinc j k u' u g g hlt hu' hu hg hP; omega
        · have := hinc k j u u' g g hlt hu hu' hP hg; omega
  · obtain ⟨b, hb⟩ := hb
    exact ⟨b, hb, fun h => by omega⟩
  · exact Nat.le_trans h.size hbut.size

theorem Turned.of_drew {w w' : World} {base q : Nat} {u : Value} {st : Int} {ss : List ByteArray} {e : Ending} (h : Turned w.drew base q u st ss e w') : Turned w base q u st ss e w' := by
  obtain ⟨h1, h2, h3, h4, h5, h6⟩ := h
  exact ⟨h1, h2, h3, h4, h5, ⟨h6.os, h6.tape, h6.output, h6.size, h6.block⟩⟩

theorem nil_fe (a : Addr) (w : World) : (nilAhead 365 41 (.pointer (some a)) "FodderElement").run Try.prog w = .ok (some false) w := by kernel_rfl
theorem meth_fe (a : Addr) (w : World) : (method 365 41 (.pointer (some a)) "FodderElement").run Try.prog w = .ok (47, .pointer (some a)) w := by kernel_rfl

set_option maxRecDepth 100000 in
set_option maxHeartbeats 1600000 in
theorem pass_any (base q f : Nat) (st : Int) (hst : 0 ≤ st ∧ st ≤ 2) (E : List El) (us : List Value) (A : Option Addr) (n c : Nat) (hn : E.length = n) (w : World) (h : FodInv base q f st E us (.slice A n c) n 0 w w)
    (hfq : f ≠ q) (hqb : base ≤ q) (hbase : base ≤ w.heap.size) (hq : ∀ (j : Nat) (u : Value), us[j]? = some u → u.ownBlock ≠ some q) (hf : ∀ (j : Nat) (u : Value), us[j]? = some u → u.ownBlock ≠ some f)
    (hvq : (Value.slice A n c).ownBlock ≠ some q) (hl : us.length = E.length)
    (hinc : ∀ (j k : Nat) (u v : Value) (a b : Nat), j < k → us[j]? = some u → us[k]? = some v → u.ownBlock = some a → v.ownBlock = some b → a < b)
    (hok : ∀ (k : Nat) (e : El), E[k]? = some e → OkEl e) (hful : FullE E) (hsig : ∀ (k : Nat) (e : El), E[k]? = some e → SignedEl e) (hbang : NoBang E) (hn1 : n ≤ 200) :
    Calls Try.prog 18 #[.pointer (some ⟨q, 0, none⟩), .iface 41 (.pointer (some ⟨q, 0, none⟩)), .pointer (some ⟨f, 0, none⟩), Value.nilIface] w
      fun e w' => e = .returned (.tuple #[]) ∧ FodInv base q f st E us (.slice A n c) n n w w' := by
  have hcell0 := h.cell
  have hfl : f < w.heap.size := World.block_lt_of_cell? w _ hcell0
  have HI := Lib.hid h
  have HQ := Lib.hid hq
  have HF := Lib.hid hf
  have HV := Lib.hid hvq
  have HL := Lib.hid hl
  have Hinc := Lib.hid hinc
  have Hok := Lib.hid hok
  have Hful := Lib.hid hful
  have Hsig := Lib.hid hsig
  have Hbang := Lib.hid hbang
  have Hn := Lib.hid hn
  clear h hq hf hvq hl hinc hok hful hsig hbang hn
  go_enter Try.func18, Try.ntmps18
  go_wp2
  go_loopw [13] (fun i wr => ∃ k : Nat, k ≤ n ∧ i = .int .i64 k ∧ FodInv base q f st E us (.slice A n c) n k w wr) (fun i _ => n - (intOf i).toNat)
  case atStart => exact ⟨0, by omega, rfl, HI.out⟩
  case round =>
    obtain ⟨k, hk, rfl, hinv⟩ := hrel
    have HK := Lib.hid hinv
    have hcell := hinv.cell
    clear hinv
    by_cases hlt : k < n
    · obtain ⟨e, he⟩ : ∃ e, E[k]? = some e := ⟨_, List.getElem?_eq_getElem (by have := Hn.out; omega)⟩
      obtain ⟨u, hu⟩ : ∃ u, us[k]? = some u := ⟨_, List.getElem?_eq_getElem (by have := Hn.out; have := HL.out; omega)⟩
      have He := Lib.hid he
      have Hu := Lib.hid hu
      obtain ⟨r, cap, hA, _, _⟩ := HK.out.row.form (by omega)
      injection hA with hA1 _ hA2
      subst hA1
      subst hA2
      have z0 : (0 : Int) ≤ (k : Int) := by omega
      have z1 : (k : Int) < (n : Int) := by omega
      clear he hu
      have hna := nil_fe ⟨q, 0, none⟩
      have hme := meth_fe ⟨q, 0, none⟩
      obtain ⟨b, hb, hb0⟩ := HK.out.seen
      have hek : k * 4 < n * 4 := by omega
      have p0 : wr.cell? ⟨r, k * 4, none⟩ = some u := (HK.out.row.cellAt (k * 4) hek).trans (flat_at (j := 0) cellsA_four HL.out He.out Hu.out rfl)
      have p1 : wr.cell? ⟨r, k * 4 + 1, none⟩ = some (.int .i64 e.kind) := (HK.out.row.cellAt (k * 4 + 1) (by omega)).trans (flat_at (j := 1) cellsA_four HL.out He.out Hu.out rfl)
      have hoc : wr.ownsRow base 9 1 u e.text.length (strs e.text) := by
        have := HK.out.coms k u e Hu.out He.out
        unfold txt at this
        rwa [if_neg (by omega)] at this
      have HB := Lib.hid hb
      have HP := Lib.hid (And.intro p0 p1)
      have HC := Lib.hid hoc
      have Hbb : Hid (b = true → ∀ s, e.text[0]? = some s → stB s cBa = false) := fun hbt s hs => by
        refine Hbang.out k e s He.out hs ?_
        by_cases hk0 : k = 0
        · rw [hb0 hk0] at hbt; cases hbt
        · have := Hn.out; omega
      clear hb hb0 p0 p1 hoc
      go_wp2
      go_region_held3 (fun w' => w'.cell? ⟨f, 0, none⟩ = some (.slice (some ⟨r, 0, none⟩) n c)) (first | go_keep | exact hcf)
        ((go_at_call 47; refine (fe_any q base ⟨r, k * 4, none⟩ e.kind e.blanks e.indent b wr.drew st hst HK.out.style HB.out HK.out.free HP.out.2 u e.text HP.out.1 HC.out (HQ.out k u Hu.out) (Hok.out k e He.out) (fun s hs => Hful.out k e s He.out hs) (Hsig.out k e He.out) Hbb.out _ _).mono ?_; rintro e' w1 ht; obtain ⟨rfl, ht2⟩ := ht; have hst2 := Lib.hid (HK.out.step He.out Hu.out (ee := .returned (.tuple #[])) (Turned.of_drew ⟨rfl, ht2⟩) hfq hqb hbase HQ.out HF.out HV.out HL.out hfl Hinc.out); clear ht2; have hcf := hst2.out.cell))
      clear hcf
      go_wp2
      go_roundw
      case rel => exact ⟨k + 1, by omega, by go_num, hst2.out⟩
      case measure => simp [intOf]; omega
    · obtain rfl : k = n := by omega
      clear hcell
      go_wp2
      go_end0
      exact ⟨rfl, HK.out⟩
end Go.Proofs.Ytdjnknkdnacbnaa
