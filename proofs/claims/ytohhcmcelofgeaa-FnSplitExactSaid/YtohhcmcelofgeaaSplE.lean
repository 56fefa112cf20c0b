/-
  sameParts: texts are those of parts. Conditions: none.
-/
import Derived.Test.YtohhcmcelofgeaaSplD
import Derived.Deep.RegionHeld3
namespace Go.Proofs.Ytohhcmcelofgeaa
open Go.RowKit
set_option linter.unusedVariables false
set_option linter.unusedSimpArgs false

def Yes (w : World) (e : Ending) (w' : World) : Prop := e = .returned (.bool true) ∧ Below w.heap.size w w'
set_option maxHeartbeats 2000000 in
set_option maxRecDepth 100000 in
theorem same_any (A : Option Addr) (n c : Nat) (B : Option Addr) (c' : Nat) (ts : List ByteArray) (ps : List (List Nat)) (vs : List Value) (hn : ps.length = n) (hts : TextsOf ts ps) (hvl : n ≤ 10000) (hpl : ∀ p ∈ ps, p.length ≤ 10000) (w : World)
    (h1 : Reads w w.heap.size 1 A n (strs ts)) (h2 : Reads w w.heap.size 1 B n vs) (h3 : Subs w vs ps) :
    Calls Try.prog 10 #[.slice A n c, .slice B n c'] w (Yes w) := by
  have HT := Lib.hid hts
  have HP := Lib.hid hpl
  have H1 := Lib.hid h1
  have H2 := Lib.hid h2
  have H3 := Lib.hid h3
  have Hn := Lib.hid hn
  clear hts hpl h1 h2 h3 hn
  go_enter Try.func10, Try.ntmps10
  go_wp2
  go_loopw [5] (fun i wr => ∃ k : Nat, k ≤ n ∧ i = .int .i64 k ∧ Below w.heap.size w wr) (fun i _ => n - (intOf i).toNat)
  case atStart => exact ⟨0, by omega, rfl, Below.refl _ _⟩
  case round =>
    obtain ⟨k, hk, rfl, hf⟩ := hrel
    obtain ⟨wo, rfl⟩ : ∃ wo : World, wo = wr := ⟨_, rfl⟩
    have HF := Lib.hid hf
    have hsz := hf.size
    by_cases hlt : k < n
    · obtain ⟨p, hp⟩ : ∃ p, ps[k]? = some p := ⟨_, List.getElem?_eq_getElem (by have := Hn.out; omega)⟩
      obtain ⟨t, ht⟩ : ∃ t, ts[k]? = some t := ⟨_, List.getElem?_eq_getElem (by have := Hn.out; have := HT.out.1; omega)⟩
      obtain ⟨v, hv⟩ : ∃ v, vs[k]? = some v := ⟨_, List.getElem?_eq_getElem (by have := Hn.out; have := H3.out.1; omega)⟩
      have hI := HT.out.2 k t p ht hp
      obtain ⟨A1, c1, rfl, hnum⟩ := H3.out.2 k v p hv hp
      have hpl1 := HP.out p (List.mem_of_getElem? hp)
      obtain ⟨ad, rfl, hb, hc⟩ := H1.out.2 (by omega)
      obtain ⟨bd, rfl, hb', hc'⟩ := H2.out.2 (by omega)
      have q1 : wo.cell? (ad.add k) = some (.string t) := (hf.cell (p := ad.add k) (by rw [block_of_add]; exact hb)).trans (hc k _ (strs_at ht))
      have q2 : wo.cell? (bd.add k) = some (.slice A1 p.length c1) := (hf.cell (p := bd.add k) (by rw [block_of_add]; exact hb')).trans (hc' k _ hv)
      have HI := Lib.hid hI
      have HNm := Lib.hid (hnum.below hf)
      have z0 : (0 : Int) ≤ (k : Int) := by omega
      have z1 : (k : Int) < (n : Int) := by omega
      have hbl : ad.block < wo.heap.size := by omega
      have hbl' : bd.block < wo.heap.size := by omega
      have hof := ofUnits_any A1 c1 p HI.out.2 hpl1 wo.drew (HNm.out.drew)
      have HOF := Lib.hid hof
      have hne : (t.toList != t.toList) = false := by simp
      clear hf hp ht hv hI hnum hc hc' hof
      go_wp2
      go_region_held3 (fun w' => w'.cell? (ad.add k) = some (.string t) ∧ w'.cell? (bd.add k) = some (.slice A1 p.length c1))
        (first | go_keep | exact ⟨dd1, dd2⟩)
        ((go_at_call 17; refine HOF.out.mono ?_; rintro e' w3 ⟨t', rfl, ht', hb3⟩; obtain rfl : t = t' := HI.out.inj ht'; have dd1 : w3.cell? (ad.add k) = some (.string t) := (hb3.cell (p := ad.add k) (by rw [block_of_add]; exact hbl)).trans q1; have dd2 : w3.cell? (bd.add k) = some (.slice A1 p.length c1) := (hb3.cell (p := bd.add k) (by rw [block_of_add]; exact hbl')).trans q2; have HB3 : Hid (Below w.heap.size w w3) := HF.out.drew.trans (hb3.mono hsz); clear ht' hb3))
      go_wp2
      go_roundw
      case rel => exact ⟨k + 1, by omega, by go_num, HB3.out⟩
      case measure => simp [intOf]; omega
    · obtain rfl : n = k := by omega
      clear hf
      go_wp2
      go_ret
      exact ⟨rfl, HF.out⟩
end Go.Proofs.Ytohhcmcelofgeaa
