/-
  encoded and OfUnits: the text of code points. Conditions: none.
-/
import Derived.Test.YtohhcmcelofgeaaSplB
import Derived.Laws.BitsLemmas
import Derived.Lib.AppendStr
import Derived.Lib.BufferRead
import Derived.Lib.BufferKept
namespace Go.Proofs.Ytohhcmcelofgeaa
open Go.RowKit
set_option linter.unusedVariables false
set_option linter.unusedSimpArgs false

theorem and63 (x : Nat) (hx : x < 4611686018427387904) : bits .and .i64 (x : Int) 63 = ((x % 64 : Nat) : Int) := by
  have h := bits_mask .i64 62 (by decide) (fun n h0 h1 => by rw [IntKind.wrap_i64]; omega) 6 (by omega) (x : Int) (by omega) (by omega)
  rw [show ((2 : Int) ^ 6 - 1) = 63 by decide, show ((2 : Int) ^ 6) = 64 by decide] at h
  rw [h]
  omega
theorem conv_bytes (w : World) (zs : List Nat) (h : ∀ z ∈ zs, z < 256) (cs : Array Value) (hcs : cs = (zs.map fun z : Nat => Value.int .u8 (z : Int)).toArray) (n : Nat) (hn : n = zs.length) :
    (convert 79 9 (.slice (some ⟨w.heap.size, 0, none⟩) n n)).run Try.prog (w.alloc (.cells cs 5)) = .ok (.string (ofB zs)) (w.alloc (.cells cs 5)) := by
  subst hcs hn
  have := run_convert_bytes_back (P := Try.prog) (w.alloc (.cells (zs.map fun z : Nat => Value.int .u8 (z : Int)).toArray 5)) 79 9 5 ⟨w.heap.size, 0, none⟩ zs.length (zs.map UInt8.ofNat) Try.underlying79 Try.underlying5 Try.underlying9 (fun j hj => by
    simp only [List.length_map] at hj
    have hz := h zs[j] (List.getElem_mem hj)
    refine news_at _ _ _ _ rfl j _ ?_
    simp [hj]
    omega)
  rw [List.length_map] at this
  exact this

def EncTo (w : World) (x : Nat) (e : Ending) (w' : World) : Prop := ∃ t : ByteArray, e = .returned (.string t) ∧ bl t = enc x ∧ Below w.heap.size w w'
set_option maxRecDepth 100000 in
theorem encoded_any (x : Nat) (hx : Sc x) (w : World) : Calls Try.prog 27 #[.int .i64 (x : Int)] w (EncTo w x) := by
  have hx2 : x < 1114112 := by unfold Sc at hx; omega
  have HB := Lib.hid (fun c hc => enc_byte hx c hc)
  clear hx
  by_cases h1 : x < 128
  · have he := enc_1 h1
    have hcv := conv_bytes w [x] (by simp; omega) #[.int .u8 (x : Int)] (by simp) 1 rfl
    have HE := Lib.hid he
    clear he
    go_enter Try.func27, Try.ntmps27
    go_wp2
    go_ret
    exact ⟨_, rfl, by rw [HE.out]; exact bl_ofB (by rw [← HE.out]; exact HB.out), (Below.refl _ _).alloc (Nat.le_refl _) _⟩
  by_cases h2 : x < 2048
  · have he := enc_2 (by omega) h2
    obtain ⟨y, hy⟩ : ∃ y : Nat, y = x % 64 := ⟨_, rfl⟩
    obtain ⟨z, hz⟩ : ∃ z : Nat, z = x / 64 := ⟨_, rfl⟩
    have e1 : bits .and .i64 (x : Int) 63 = (y : Int) := by rw [and63 x (by omega), hy]
    have e0 : (x : Int) / 64 = (z : Int) := by omega
    rw [← hy, ← hz] at he
    have b1 : y < 64 := by omega
    have b2 : z < 32 := by omega
    have HE := Lib.hid he
    have hcv := conv_bytes w [192 + z, 128 + y] (by simp; omega) #[.int .u8 (192 + (z : Int)), .int .u8 (128 + (y : Int))] (by simp) 2 rfl
    clear he hy hz
    go_enter Try.func27, Try.ntmps27
    go_wp2
    go_ret
    exact ⟨_, rfl, by rw [HE.out]; exact bl_ofB (by rw [← HE.out]; exact HB.out), (Below.refl _ _).alloc (Nat.le_refl _) _⟩
  by_cases h3 : x < 65536
  · have he := enc_3 (by omega) h3
    obtain ⟨y, hy⟩ : ∃ y : Nat, y = x % 64 := ⟨_, rfl⟩
    obtain ⟨v, hv⟩ : ∃ v : Nat, v = x / 64 := ⟨_, rfl⟩
    obtain ⟨u, hu⟩ : ∃ u : Nat, u = x / 64 % 64 := ⟨_, rfl⟩
    obtain ⟨z, hz⟩ : ∃ z : Nat, z = x / 4096 := ⟨_, rfl⟩
    have e1 : bits .and .i64 (x : Int) 63 = (y : Int) := by rw [and63 x (by omega), hy]
    have e2 : bits .and .i64 (v : Int) 63 = (u : Int) := by rw [and63 v (by omega), hu, hv]
    have e0 : (x : Int) / 64 = (v : Int) := by omega
    have e3 : (x : Int) / 4096 = (z : Int) := by omega
    rw [← hy, ← hu, ← hz] at he
    have b1 : y < 64 := by omega
    have b2 : u < 64 := by omega
    have b3 : z < 16 := by omega
    have b0 : v < 1024 := by omega
    have c1 : ¬ (x : Int) < 128 := by omega
    have c2 : ¬ (x : Int) < 2048 := by omega
    have c3 : (x : Int) < 65536 := by omega
    clear h1 h2 h3
    have HE := Lib.hid he
    have hcv := conv_bytes w [224 + z, 128 + u, 128 + y] (by simp; omega) #[.int .u8 (224 + (z : Int)), .int .u8 (128 + (u : Int)), .int .u8 (128 + (y : Int))] (by simp) 3 rfl
    clear he hy hz hu hv
    go_enter Try.func27, Try.ntmps27
    go_wp2
    go_ret
    exact ⟨_, rfl, by rw [HE.out]; exact bl_ofB (by rw [← HE.out]; exact HB.out), (Below.refl _ _).alloc (Nat.le_refl _) _⟩
  · have he := enc_4 (show 65536 ≤ x by omega)
    obtain ⟨y, hy⟩ : ∃ y : Nat, y = x % 64 := ⟨_, rfl⟩
    obtain ⟨v, hv⟩ : ∃ v : Nat, v = x / 64 := ⟨_, rfl⟩
    obtain ⟨u, hu⟩ : ∃ u : Nat, u = x / 64 % 64 := ⟨_, rfl⟩
    obtain ⟨q, hq⟩ : ∃ q : Nat, q = x / 4096 := ⟨_, rfl⟩
    obtain ⟨r, hr⟩ : ∃ r : Nat, r = x / 4096 % 64 := ⟨_, rfl⟩
    obtain ⟨z, hz⟩ : ∃ z : Nat, z = x / 262144 := ⟨_, rfl⟩
    have e1 : bits .and .i64 (x : Int) 63 = (y : Int) := by rw [and63 x (by omega), hy]
    have e2 : bits .and .i64 (v : Int) 63 = (u : Int) := by rw [and63 v (by omega), hu, hv]
    have e4 : bits .and .i64 (q : Int) 63 = (r : Int) := by rw [and63 q (by omega), hr, hq]
    have e0 : (x : Int) / 64 = (v : Int) := by omega
    have e5 : (x : Int) / 4096 = (q : Int) := by omega
    have e3 : (x : Int) / 262144 = (z : Int) := by omega
    rw [← hy, ← hu, ← hr, ← hz] at he
    have b1 : y < 64 := by omega
    have b2 : u < 64 := by omega
    have b4 : r < 64 := by omega
    have b3 : z < 8 := by omega
    have b0 : v < 17408 := by omega
    have b5 : q < 272 := by omega
    have c1 : ¬ (x : Int) < 128 := by omega
    have c2 : ¬ (x : Int) < 2048 := by omega
    have c3 : ¬ (x : Int) < 65536 := by omega
    clear h1 h2 h3
    have HE := Lib.hid he
    have hcv := conv_bytes w [240 + z, 128 + r, 128 + u, 128 + y] (by simp; omega) #[.int .u8 (240 + (z : Int)), .int .u8 (128 + (r : Int)), .int .u8 (128 + (u : Int)), .int .u8 (128 + (y : Int))] (by simp) 4 rfl
    clear he hy hz hu hv hq hr
    go_enter Try.func27, Try.ntmps27
    go_wp2
    go_ret
    exact ⟨_, rfl, by rw [HE.out]; exact bl_ofB (by rw [← HE.out]; exact HB.out), (Below.refl _ _).alloc (Nat.le_refl _) _⟩

/-! ### OfUnits -/
/-- A row of bytes of the own. -/
def Byt (w : World) (base : Nat) (v : Value) (l : List UInt8) : Prop := w.ownsRow base 5 1 v l.length (Lib.byteCells l)
theorem info_byte : (Try.prog.info? 5).map (fun i => (i.zero, i.size, i.bytes)) = some (some (.int .u8 0), 1, 1) := by kernel_rfl
theorem byt_append {w : World} {base : Nat} {v : Value} {l : List UInt8} {n : Nat} {cs : List Value} (m : List UInt8) (h : w.ownsRow base 5 1 v (l.length + n) (Lib.byteCells l ++ cs)) (hn : m.length = n) (hc : Lib.byteCells m = cs) : Byt w base v (l ++ m) := by
  subst hn hc
  show World.ownsRow _ _ _ _ _ _ _
  rw [List.length_append, Lib.byteCells_append]
  exact h
theorem byt_text {w : World} {base : Nat} {v : Value} {l : List UInt8} (h : Byt w base v l) : (convert 79 9 v).run Try.prog w = .ok (.string ⟨l.toArray⟩) w := by
  rcases h.2 with ⟨rfl, h0⟩ | ⟨g, cap, cur, rfl, _, hg, hnc, _, _, htk⟩
  · have : l = [] := List.eq_nil_of_length_eq_zero h0
    subst this
    exact Lib.run_convert_nil_bytes w _ _ _ 0 Try.underlying79 Try.underlying5 Try.underlying9
  · rw [Nat.mul_one] at htk
    exact run_convert_bytes_back w _ _ _ ⟨g, 0, none⟩ cap l Try.underlying79 Try.underlying5 Try.underlying9 (Lib.bytes_of_row hg htk)
def OfTo (w : World) (p : List Nat) (e : Ending) (w' : World) : Prop := ∃ t : ByteArray, e = .returned (.string t) ∧ Is t p ∧ Below w.heap.size w w'
/-- Numbers lie there. -/
def Nums (w : World) (A : Option Addr) (p : List Nat) : Prop := Reads w w.heap.size 1 A p.length (ints p)
theorem ints_at {p : List Nat} {k x : Nat} (h : p[k]? = some x) : (ints p)[k]? = some (.int .i64 (x : Int)) := by simp [ints, h]
theorem Nums.at_ {w : World} {A : Option Addr} {p : List Nat} (h : Nums w A p) {k : Nat} (hk : k < p.length) : ∃ ad x, A = some ad ∧ ad.block < w.heap.size ∧ p[k]? = some x ∧ w.cell? (ad.add k) = some (.int .i64 (x : Int)) := by
  obtain ⟨ad, u, e, hb, hx, hc⟩ := Reads.at_ h hk
  have hs : p[k]? = some p[k] := List.getElem?_eq_getElem hk
  rw [ints_at hs] at hx
  injection hx with hx
  subst hx
  exact ⟨ad, _, e, hb, hs, hc⟩
theorem Nums.below {w w' : World} {A : Option Addr} {p : List Nat} (h : Nums w A p) (hb : Below w.heap.size w w') : Nums w' A p := (Reads.below h hb).more hb.size
set_option maxRecDepth 100000 in
set_option maxHeartbeats 1000000 in
theorem ofUnits_any (A : Option Addr) (c : Nat) (p : List Nat) (hp : ∀ x ∈ p, Sc x) (hl : p.length ≤ 10000) (w : World) (h : Nums w A p) :
    Calls Try.prog 17 #[.slice A p.length c] w (OfTo w p) := by
  obtain ⟨i5, hi5, hz5, hz5', hz5''⟩ := info_parts info_byte
  have HP := Lib.hid hp
  have HR := Lib.hid h
  clear hp h
  go_enter Try.func17, Try.ntmps17
  go_wp2
  go_loopw [3, 4] (fun out i wr => ∃ (k : Nat) (L : List UInt8), k ≤ p.length ∧ i = .int .i64 k ∧ Hid (L.map UInt8.toNat = (p.take k).flatMap enc ∧ L.length ≤ 4 * k) ∧ Byt wr w.heap.size out L ∧ Below w.heap.size w wr) (fun _ i _ => p.length - (intOf i).toNat)
  case atStart => exact ⟨0, [], by omega, rfl, ⟨rfl, by simp⟩, World.ownsRow_lit _ _ 0 (Nat.le_refl _) (by decide) rfl, (Below.refl _ _).alloc (Nat.le_refl _) _⟩
  case round =>
    obtain ⟨k, L, hk, rfl, hL, ho, hf⟩ := hrel
    obtain ⟨wo, rfl⟩ : ∃ wo : World, wo = wr := ⟨_, rfl⟩
    have HO := Lib.hid ho
    have HF := Lib.hid hf
    have hsz := hf.size
    by_cases hlt : k < p.length
    · obtain ⟨ad, x, rfl, hb, hx, hc⟩ := Nums.at_ (HR.out.below hf) hlt
      have Hx := Lib.hid hx
      have HX : Hid (Sc x) := HP.out x (List.mem_of_getElem? hx)
      have hLl := hL.out.2
      have z0 : (0 : Int) ≤ (k : Int) := by omega
      have z1 : (k : Int) < (p.length : Int) := by omega
      clear ho hf hx
      go_wp2_with fail
      go_at_call 27
      refine (encoded_any x HX.out wo).mono ?_
      rintro e' w1 ⟨t, rfl, ht, hb1⟩
      have htl : t.size ≤ 4 := by rw [← bl_length, ht]; exact enc_le x
      have HT := Lib.hid ht
      have HF1 := Lib.hid (HF.out.trans (hb1.mono hsz))
      have HO1 : Hid (Byt w1 w.heap.size u3 L) := HO.out.kept (row := none) (only_of_below hb1 (Nat.le_refl _) none) (by cases u3.ownBlock <;> simp)
      have hs1 := HF1.out.size
      clear ht hb1
      go_wp2_with (at_builtin; refine Lib.wpList_append_own_string _ rfl (.tmp 12) (.tmp 17) 79 9 rfl w.heap.size 5 i5 Try.underlying79 Try.underlying9 hi5 hz5 hz5' hz5'' u3 L.length (Lib.byteCells L) rfl HO1.out t rfl (by simp only [maxLen]; omega) (by omega) hs1 ?_; intro v1 w3 hown3 hg3 hn3)
      have HN : Hid (Byt w3 w.heap.size v1 (L ++ t.data.toList)) := byt_append t.data.toList hown3 (Lib.size_eq t ▸ rfl) rfl
      have HF3 := Lib.hid (HF1.out.grown hg3 hs1 (fun a ha => (HO1.out.lt a ha).1))
      have HL3 : Hid ((L ++ t.data.toList).map UInt8.toNat = (p.take (k + 1)).flatMap enc ∧ (L ++ t.data.toList).length ≤ 4 * (k + 1)) := by
        refine ⟨?_, ?_⟩
        · have e : p.take (k + 1) = p.take k ++ [x] := by
            obtain ⟨hk2, he⟩ := List.getElem?_eq_some_iff.1 Hx.out
            rw [List.take_succ_eq_append_getElem hk2, he]
          rw [e, List.map_append, hL.out.1, List.flatMap_append]
          congr 1
          have := HT.out
          unfold bl at this
          rw [this]; simp
        · have : t.data.toList.length = t.size := Lib.size_eq t ▸ rfl
          rw [List.length_append]
          omega
      clear hown3 hg3 hn3 hL
      go_wp2
      go_roundw
      case rel => exact ⟨k + 1, _, by omega, by go_num, HL3.out, HN.out, HF3.out⟩
      case measure => simp [intOf]; omega
    · obtain rfl : p.length = k := by omega
      have hcv := byt_text ho
      have HI : Hid (Is ⟨L.toArray⟩ p) := by
        refine ⟨?_, HP.out⟩
        have := hL.out.1
        rw [List.take_length] at this
        unfold bl
        simpa using this
      clear ho hf hL
      go_wp2
      go_ret
      exact ⟨_, rfl, HI.out, HF.out⟩
end Go.Proofs.Ytohhcmcelofgeaa
