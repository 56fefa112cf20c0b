/-
  The arguments of a call, made. Conditions: none.
-/
import Derived.Test.YtppmdncmjcknkaaBndD
import Derived.BigRegion
namespace Go.Proofs.Ytppmdncmjcknkaa
open Go.RowKit
set_option linter.unusedVariables false
set_option linter.unusedSimpArgs false

theorem blk_grown {w w' : World} {g : Nat} {t : TypeId} {cs : Array Value} {row : Option Nat} (hb : w.grownBy w' row) (h : Blk w g t cs) (hg : some g ≠ row) : Blk w' g t cs := h.grown hb hg

/-- The thunks of positional arguments. -/
def PosOk (w : World) (base k : Nat) (v : Value) : Prop := ∃ ts, w.ownsRow base 53 1 v k ts ∧ ∀ (j : Nat) (u : Value), ts[j]? = some u → Thk w u j

theorem news_drew (w : World) (n : Nat) (cs : List Value) (t : TypeId) (hn : w.heap.size = n) : ∀ (j : Nat) (u : Value), cs[j]? = some u → (w.alloc (.cells cs.toArray t)).drew.cell? ((⟨n, 0, none⟩ : Addr).add j) = some u := news_at w n cs t hn

/-- The world with a number, its thunk and a cell for it. -/
def thunked (wr : World) (n : Int) : World :=
  (wr.alloc (.cells #[.float .f64 (floatOfInt .f64 n)] 58)).alloc (.cells #[.pointer none, .nilIface, .iface 59 (.pointer (some ⟨wr.heap.size, 0, none⟩)), .nilIface] 66)
theorem thunked_thk (wr : World) (n : Int) : Thk (thunked wr n) (.pointer (some ⟨wr.heap.size + 1, 0, none⟩)) n := by
  refine ⟨wr.heap.size + 1, wr.heap.size, rfl, ?_, ?_⟩
  · have := Blk.new (wr.alloc (.cells #[.float .f64 (floatOfInt .f64 n)] 58)) 66 #[.pointer none, .nilIface, .iface 59 (.pointer (some ⟨wr.heap.size, 0, none⟩)), .nilIface]
    rwa [show (wr.alloc (.cells #[.float .f64 (floatOfInt .f64 n)] 58)).heap.size = wr.heap.size + 1 by simp] at this
  · exact (Blk.new wr 58 #[.float .f64 (floatOfInt .f64 n)]).alloc _
theorem thunked_below (wr : World) (n : Int) : Below wr.heap.size wr (thunked wr n) := ((Below.refl _ _).alloc (Nat.le_refl _) _).alloc (by simp) _
theorem thunked_size (wr : World) (n : Int) : (thunked wr n).heap.size = wr.heap.size + 2 := by simp [thunked]

theorem pos_next {w wr w2 : World} {k g2 cap2 q : Nat} {vp vn : Value} {ts : List Value} {o : Obj} (hbw : Below w.heap.size w wr) (hsz : w.heap.size + 2 ≤ wr.heap.size) (hq : Blk wr q 48 #[vp, vn, .bool false]) (hqb : w.heap.size ≤ q)
    (ho : wr.ownsRow w.heap.size 53 1 vp k ts) (hts : ∀ (j : Nat) (u : Value), ts[j]? = some u → Thk wr u j)
    (hown2 : w2.ownsRow w.heap.size 53 1 (.slice (some ⟨g2, 0, none⟩) (k + 1) cap2) (k + 1) (ts ++ [.pointer (some ⟨wr.heap.size + 1, 0, none⟩)]))
    (hg2 : ((thunked wr k).alloc o).drew.grownBy w2 vp.ownBlock) :
    Blk (w2.setCell ⟨q, 0, none⟩ (.slice (some ⟨g2, 0, none⟩) (k + 1) cap2)) q 48 #[.slice (some ⟨g2, 0, none⟩) (k + 1) cap2, vn, .bool false] ∧
    PosOk (w2.setCell ⟨q, 0, none⟩ (.slice (some ⟨g2, 0, none⟩) (k + 1) cap2)) w.heap.size (k + 1) (.slice (some ⟨g2, 0, none⟩) (k + 1) cap2) ∧ Below w.heap.size w (w2.setCell ⟨q, 0, none⟩ (.slice (some ⟨g2, 0, none⟩) (k + 1) cap2)) ∧
    w.heap.size + 2 ≤ (w2.setCell ⟨q, 0, none⟩ (.slice (some ⟨g2, 0, none⟩) (k + 1) cap2)).heap.size ∧
    ∀ (g : Nat) (cs : Array Value), g ≠ q → Blk wr g 48 cs → Blk (w2.setCell ⟨q, 0, none⟩ (.slice (some ⟨g2, 0, none⟩) (k + 1) cap2)) g 48 cs := by
  have hb3 : Below wr.heap.size wr ((thunked wr k).alloc o).drew := ((thunked_below wr k).alloc (by rw [thunked_size]; omega) _).drew
  have hq2 : Blk w2 q 48 #[vp, vn, .bool false] := blk_grown hg2 (hq.later hb3) (fun e => own_blk_ne ho hq (by decide) e.symm)
  have hk1 : NumKeep ((thunked wr k).alloc o).drew w2 := NumKeep.grown (ownsRow_below ho hb3) hg2 (by decide) (by decide)
  have hk2 : NumKeep w2 (w2.setCell ⟨q, 0, none⟩ (.slice (some ⟨g2, 0, none⟩) (k + 1) cap2)) := NumKeep.set_ hq2 (by decide) (by decide) _ _
  have hsize := hg2.size
  have hlen : ts.length = k := by have := ho.1; omega
  have hs0 : ((thunked wr k).alloc o).drew.heap.size = wr.heap.size + 3 := by show ((thunked wr k).alloc o).heap.size = _; simp [thunked]
  refine ⟨hq2.set_ 0 _, ⟨_, ownsRow_set hown2 (own_blk_ne hown2 hq2 (by decide)), fun j u hu => ?_⟩, ?_, ?_, fun g cs hgq hg => (blk_grown hg2 (hg.later hb3) (fun e => own_blk_ne ho hg (by decide) e.symm)).far hgq _⟩
  · rcases Nat.lt_trichotomy j k with c | c | c
    · rw [List.getElem?_append_left (by omega)] at hu
      exact ((hts j u hu).keep (NumKeep.below hb3)).keep (hk1.trans hk2)
    · subst c
      rw [List.getElem?_append_right (by omega), hlen] at hu
      simp at hu
      subst hu
      exact ((thunked_thk wr j).keep (NumKeep.below ((Below.refl _ _).alloc (Nat.le_refl _) o).drew)).keep (hk1.trans hk2)
    · rw [List.getElem?_eq_none (by simp; omega)] at hu; cases hu
  · exact ((hbw.trans (hb3.mono (by omega))).grown hg2 (by omega) (fun a ha => (ho.lt a ha).1)).setCell hqb _
  · simp [World.setCell]; omega

/-- The thunks of arguments with names. -/
def NamOk (w : World) (base n k : Nat) (v : Value) (N : List ByteArray) : Prop := ∃ xs, w.ownsRow base 98 2 v k xs ∧
  ∀ (j : Nat) (s : ByteArray), j < k → N[j]? = some s → ∃ u, xs[j * 2]? = some u ∧ xs[j * 2 + 1]? = some (.string s) ∧ Thk w u ((n + j : Nat) : Int)

theorem nam_next {w wr w2 : World} {n k g2 cap2 q : Nat} {vp vn : Value} {xs : List Value} {N : List ByteArray} {s : ByteArray} {o : Obj} (hbw : Below w.heap.size w wr) (hsz : w.heap.size + 2 ≤ wr.heap.size) (hq : Blk wr q 48 #[vp, vn, .bool false]) (hqb : w.heap.size ≤ q)
    (hpos : PosOk wr w.heap.size n vp) (ho : wr.ownsRow w.heap.size 98 2 vn k xs) (hs : N[k]? = some s)
    (hts : ∀ (j : Nat) (s : ByteArray), j < k → N[j]? = some s → ∃ u, xs[j * 2]? = some u ∧ xs[j * 2 + 1]? = some (.string s) ∧ Thk wr u ((n + j : Nat) : Int))
    (hown2 : w2.ownsRow w.heap.size 98 2 (.slice (some ⟨g2, 0, none⟩) (k + 1) cap2) (k + 1) (xs ++ [.pointer (some ⟨wr.heap.size + 1, 0, none⟩), .string s]))
    (hg2 : ((thunked wr ((n : Int) + (k : Int))).alloc o).drew.grownBy w2 vn.ownBlock) :
    Blk (w2.setCell ⟨q, 1, none⟩ (.slice (some ⟨g2, 0, none⟩) (k + 1) cap2)) q 48 #[vp, .slice (some ⟨g2, 0, none⟩) (k + 1) cap2, .bool false] ∧
    PosOk (w2.setCell ⟨q, 1, none⟩ (.slice (some ⟨g2, 0, none⟩) (k + 1) cap2)) w.heap.size n vp ∧
    NamOk (w2.setCell ⟨q, 1, none⟩ (.slice (some ⟨g2, 0, none⟩) (k + 1) cap2)) w.heap.size n (k + 1) (.slice (some ⟨g2, 0, none⟩) (k + 1) cap2) N ∧ Below w.heap.size w (w2.setCell ⟨q, 1, none⟩ (.slice (some ⟨g2, 0, none⟩) (k + 1) cap2)) ∧
    w.heap.size + 2 ≤ (w2.setCell ⟨q, 1, none⟩ (.slice (some ⟨g2, 0, none⟩) (k + 1) cap2)).heap.size ∧
    ∀ (g : Nat) (cs : Array Value), g ≠ q → Blk wr g 48 cs → Blk (w2.setCell ⟨q, 1, none⟩ (.slice (some ⟨g2, 0, none⟩) (k + 1) cap2)) g 48 cs := by
  have hcast : ((n + k : Nat) : Int) = (n : Int) + (k : Int) := by omega
  rw [← hcast] at hg2
  have hb3 : Below wr.heap.size wr ((thunked wr ((n + k : Nat) : Int)).alloc o).drew := ((thunked_below wr _).alloc (by rw [thunked_size]; omega) _).drew
  have hq2 : Blk w2 q 48 #[vp, vn, .bool false] := blk_grown hg2 (hq.later hb3) (fun e => own_blk_ne ho hq (by decide) e.symm)
  have hk1 : NumKeep ((thunked wr ((n + k : Nat) : Int)).alloc o).drew w2 := NumKeep.grown (ownsRow_below ho hb3) hg2 (by decide) (by decide)
  have hk2 : NumKeep w2 (w2.setCell ⟨q, 1, none⟩ (.slice (some ⟨g2, 0, none⟩) (k + 1) cap2)) := NumKeep.set_ hq2 (by decide) (by decide) _ _
  have hsize := hg2.size
  have hlen : xs.length = k * 2 := ho.1
  have hs0 : ((thunked wr ((n + k : Nat) : Int)).alloc o).drew.heap.size = wr.heap.size + 3 := by show ((thunked wr ((n + k : Nat) : Int)).alloc o).heap.size = _; simp [thunked]
  refine ⟨hq2.set_ 1 _, ?_, ⟨_, ownsRow_set hown2 (own_blk_ne hown2 hq2 (by decide)), fun j s' hj hs' => ?_⟩, ?_, ?_, fun g cs hgq hg => (blk_grown hg2 (hg.later hb3) (fun e => own_blk_ne ho hg (by decide) e.symm)).far hgq _⟩
  · obtain ⟨ts, hp1, hp2⟩ := hpos
    refine ⟨ts, ?_, fun j u hu => ((hp2 j u hu).keep (NumKeep.below hb3)).keep (hk1.trans hk2)⟩
    exact ownsRow_set ((ownsRow_below hp1 hb3).kept hg2 (own_ne hp1 ho (by decide))) (own_blk_ne ((ownsRow_below hp1 hb3).kept hg2 (own_ne hp1 ho (by decide))) hq2 (by decide))
  · by_cases c : j < k
    · obtain ⟨u, h1, h2, h3⟩ := hts j s' c hs'
      exact ⟨u, by rw [List.getElem?_append_left (by omega)]; exact h1, by rw [List.getElem?_append_left (by omega)]; exact h2, (h3.keep (NumKeep.below hb3)).keep (hk1.trans hk2)⟩
    · obtain rfl : j = k := by omega
      rw [hs] at hs'
      injection hs' with hs'
      subst hs'
      refine ⟨.pointer (some ⟨wr.heap.size + 1, 0, none⟩), ?_, ?_, ((thunked_thk wr _).keep (NumKeep.below ((Below.refl _ _).alloc (Nat.le_refl _) o).drew)).keep (hk1.trans hk2)⟩
      · rw [List.getElem?_append_right (by omega), hlen, Nat.sub_self]; rfl
      · rw [List.getElem?_append_right (by omega), hlen, show j * 2 + 1 - j * 2 = 1 by omega]; rfl
  · exact ((hbw.trans (hb3.mono (by omega))).grown hg2 (by omega) (fun a ha => (ho.lt a ha).1)).setCell hqb _
  · simp [World.setCell]; omega

theorem pos_set {w : World} {base n r i : Nat} {v u : Value} {cs : Array Value} (h : PosOk w base n v) (hr : Blk w r 48 cs) : PosOk (w.setCell ⟨r, i, none⟩ u) base n v := by
  obtain ⟨ts, h1, h2⟩ := h
  exact ⟨ts, ownsRow_set h1 (own_blk_ne h1 hr (by decide)), fun j u hu => (h2 j u hu).keep (NumKeep.set_ hr (by decide) (by decide) _ _)⟩
theorem nam_set {w : World} {base n k r i : Nat} {v u : Value} {N : List ByteArray} {cs : Array Value} (h : NamOk w base n k v N) (hr : Blk w r 48 cs) : NamOk (w.setCell ⟨r, i, none⟩ u) base n k v N := by
  obtain ⟨xs, h1, h2⟩ := h
  refine ⟨xs, ownsRow_set h1 (own_blk_ne h1 hr (by decide)), fun j s hj hs => ?_⟩
  obtain ⟨x, a, b, c⟩ := h2 j s hj hs
  exact ⟨x, a, b, c.keep (NumKeep.set_ hr (by decide) (by decide) _ _)⟩

def ArgsOk (w : World) (n : Nat) (N : List ByteArray) (e : Ending) (w' : World) : Prop := ∃ vp vn, e = .returned (.agg #[vp, vn, .bool false]) ∧ PosOk w' w.heap.size n vp ∧ NamOk w' w.heap.size n N.length vn N ∧ Below w.heap.size w w'

set_option maxRecDepth 100000 in
set_option maxHeartbeats 1600000 in
theorem arguments_any (n : Nat) (hn : n ≤ 200) (A : Option Addr) (c : Nat) (N : List ByteArray) (hN : N.length ≤ 100) (w : World) (h : Reads w w.heap.size 1 A N.length (strs N)) :
    Calls Try.prog 21 #[.int .i64 n, .slice A N.length c] w (ArgsOk w n N) := by
  obtain ⟨i53, hi53, hz53, hz53', hz53''⟩ := info_parts info_ptr
  obtain ⟨i98, hi98, hz98, hz98', hz98''⟩ := info_parts info_named
  have HR := Lib.hid h
  clear h
  go_enter Try.func21, Try.ntmps21
  go_wp2
  go_loopw [10] (fun i wr => ∃ (k : Nat) (vp : Value), k ≤ n ∧ i = .int .i64 k ∧ Blk wr (w.heap.size + 1) 48 #[vp, .slice none 0 0, .bool false] ∧ PosOk wr w.heap.size k vp ∧ Below w.heap.size w wr ∧ w.heap.size + 2 ≤ wr.heap.size ∧ Blk wr w.heap.size 48 #[.slice none 0 0, .slice none 0 0, .bool false]) (fun i _ => n - (intOf i).toNat)
  case atStart =>
    refine ⟨0, .slice none 0 0, by omega, rfl, ?_, ⟨[], World.ownsRow_nil _ _ _ _, fun j u h => by simp at h⟩, ((Below.refl _ _).alloc (Nat.le_refl _) _).alloc (by simp) _, by simp, ((Blk.new w 48 #[.slice none 0 0, .slice none 0 0, .bool false]).alloc _)⟩
    have := Blk.new (w.alloc (.cells #[.slice none 0 0, .slice none 0 0, .bool false] 48)) 48 #[.slice none 0 0, .slice none 0 0, .bool false]
    simpa using this
  case round =>
    obtain ⟨k, vp, hk, rfl, hq, ⟨ts, ho, hts⟩, hbw, hsz, hr⟩ := hrel
    have HRR := Lib.hid hr
    clear hr
    by_cases hlt : k < n
    · obtain ⟨Ap, cp, rfl, hcp⟩ := own_form ho
      have HQ := Lib.hid hq
      have Ho := Lib.hid ho
      have Hts := Lib.hid hts
      have Hbw := Lib.hid hbw
      have c0 := hq.cell 0
      have f0 := hq.frozen 0
      have c0' : wr.cell? ⟨w.heap.size + 1, 0, none⟩ = some (.slice Ap k cp) := c0
      have hqo := Lib.hid (own_blk_ne ho hq (by decide))
      have l0 : w.heap.size + 1 < wr.heap.size := by omega
      have l1 : w.heap.size + 1 < wr.heap.size + 1 := by omega
      have l2 : w.heap.size + 1 < wr.heap.size + 1 + 1 := by omega
      have l3 : w.heap.size < wr.heap.size := by omega
      have l4 : w.heap.size < wr.heap.size + 1 := by omega
      clear hq ho hts hbw c0
      go_wp2
      go_region_law (first
        | (refine step_append_lies _ (by rfl) (.tmp 14) (.tmp 19) _ (by rfl) w.heap.size 53 i53 _ 1 8 Try.underlying44 hi53 hz53 hz53' hz53'' rfl (by omega) (.slice Ap k cp) k ts (by simp [Act.eval]) ((((Ho.out.alloc _).alloc _).alloc _).drew) ⟨wr.heap.size + 2, 0, none⟩ 1 1 [.pointer (some ⟨wr.heap.size + 1, 0, none⟩)] (by simp [Act.eval]) (by rfl) (news_drew _ _ _ _ (by simp)) (by simp [Value.oneCell']) (by omega) (by simp only [maxLen]; omega) (by omega) (by simp; omega) (wr.heap.size + 3) (by simp) ?_; intro g2 cap2 w2 hown2 hg2 hat2 hlt2; have kq := blk_grown hg2 ((((HQ.out.alloc _).alloc _).alloc _).drew) (fun e => hqo.out e.symm); have kc : w2.cell? ⟨w.heap.size + 1, 0, none⟩ = some (.slice Ap k cp) := kq.cell 0; have kf : w2.frozen? ⟨w.heap.size + 1, 0, none⟩ = false := kq.frozen 0; clear kq)
        | (go_simp; go_at_call 30; refine (intval_any _ _).mono ?_; rintro e' w' ⟨rfl, rfl⟩)
        | (go_simp; go_at_call 29; refine (ready_any _ _ _).mono ?_; rintro e' w' ⟨rfl, rfl⟩))
      all_goals
        have HX := Lib.hid (pos_next (q := w.heap.size + 1) Hbw.out hsz HQ.out (by omega) Ho.out Hts.out hown2 hg2)
        clear hown2 hg2 hat2 hlt2 kc kf
        go_wp2
        go_roundw
        case rel => exact ⟨k + 1, _, by omega, by go_num, HX.out.1, HX.out.2.1, HX.out.2.2.1, HX.out.2.2.2.1, HX.out.2.2.2.2 _ _ (by omega) HRR.out⟩
        case measure => simp [intOf]; omega
    · obtain rfl : k = n := by omega
      obtain ⟨Ap, cp, rfl, hcp⟩ := own_form ho
      have HQ := Lib.hid hq
      have HP : Hid (PosOk wr w.heap.size k (.slice Ap k cp)) := ⟨ts, ho, hts⟩
      have Hbw := Lib.hid hbw
      clear hq ho hts hbw
      go_wp2
      obtain ⟨wo, rfl⟩ : ∃ wo : World, wo = wr := ⟨_, rfl⟩
      go_loopw [25] (fun i wr => ∃ (m : Nat) (vn : Value), m ≤ N.length ∧ i = .int .i64 m ∧ Blk wr (w.heap.size + 1) 48 #[.slice Ap k cp, vn, .bool false] ∧ PosOk wr w.heap.size k (.slice Ap k cp) ∧ NamOk wr w.heap.size k m vn N ∧ Below w.heap.size w wr ∧ w.heap.size + 2 ≤ wr.heap.size ∧ Blk wr w.heap.size 48 #[.slice none 0 0, .slice none 0 0, .bool false]) (fun i _ => N.length - (intOf i).toNat)
      case atStart => exact ⟨0, .slice none 0 0, by omega, rfl, HQ.out, HP.out, ⟨[], World.ownsRow_nil _ _ _ _, fun j s h => absurd h (by omega)⟩, Hbw.out, hsz, HRR.out⟩
      case round =>
        obtain ⟨m, vn, hm, rfl, hq, hpos, ⟨xs, ho, hts⟩, hbw, hsz, hr⟩ := hrel
        clear HRR
        have HRR := Lib.hid hr
        clear hr
        obtain ⟨An, cn, rfl, hcn⟩ := own_form ho
        have hsz0 := Hbw.out.size
        clear HQ HP Hbw
        have HQ := Lib.hid hq
        have HP := Lib.hid hpos
        have Hbw := Lib.hid hbw
        have Ho := Lib.hid ho
        have Hts := Lib.hid hts
        by_cases hlt : m < N.length
        · obtain ⟨ad, s, rfl, hb, hs, hc0⟩ := HR.out.line hlt
          have hc := (hbw.cell (p := ad.add m) (by rw [block_of_add]; exact hb)).trans hc0
          have Hs := Lib.hid hs
          have c0 := hq.cell 1
          have f0 := hq.frozen 1
          have c0' : wr.cell? ⟨w.heap.size + 1, 1, none⟩ = some (.slice An m cn) := c0
          have hqo := Lib.hid (own_blk_ne ho hq (by decide))
          have l0 : w.heap.size + 1 < wr.heap.size := by omega
          have l1 : w.heap.size + 1 < wr.heap.size + 1 := by omega
          have l2 : w.heap.size + 1 < wr.heap.size + 1 + 1 := by omega
          have l3 : w.heap.size < wr.heap.size := by omega
          have l4 : w.heap.size < wr.heap.size + 1 := by omega
          have hwr : IntKind.i64.wrap ((k : Int) + (m : Int)) = (k : Int) + (m : Int) := by rw [IntKind.wrap_i64]; omega
          clear hq hpos ho hts hbw c0 hs hc0
          go_wp2
          go_region_law (first
            | (refine step_append_lies _ (by rfl) (.tmp 31) (.tmp 40) _ (by rfl) w.heap.size 98 i98 _ 2 24 Try.underlying46 hi98 hz98 hz98' hz98'' rfl (by omega) (.slice An m cn) m xs (by simp [Act.eval]) ((((Ho.out.alloc _).alloc _).alloc _).drew) ⟨wr.heap.size + 2, 0, none⟩ 1 1 [.pointer (some ⟨wr.heap.size + 1, 0, none⟩), .string s] (by simp [Act.eval]) (by rfl) (news_drew _ _ _ _ (by simp)) (by simp [Value.oneCell']) (by omega) (by simp only [maxLen]; omega) (by omega) (by simp; omega) (wr.heap.size + 3) (by simp) ?_; intro g2 cap2 w2 hown2 hg2 hat2 hlt2; have kq := blk_grown hg2 ((((HQ.out.alloc _).alloc _).alloc _).drew) (fun e => hqo.out e.symm); have kc : w2.cell? ⟨w.heap.size + 1, 1, none⟩ = some (.slice An m cn) := kq.cell 1; have kf : w2.frozen? ⟨w.heap.size + 1, 1, none⟩ = false := kq.frozen 1; clear kq)
            | (go_simp; go_at_call 30; refine (intval_any _ _).mono ?_; rintro e' w' ⟨rfl, rfl⟩)
            | (go_simp; go_at_call 29; refine (ready_any _ _ _).mono ?_; rintro e' w' ⟨rfl, rfl⟩))
          all_goals
            have HX := Lib.hid (nam_next (q := w.heap.size + 1) Hbw.out hsz HQ.out (by omega) HP.out Ho.out Hs.out Hts.out hown2 hg2)
            clear hown2 hg2 hat2 hlt2 kc kf
            go_wp2
            go_roundw
            case rel => exact ⟨m + 1, _, by omega, by go_num, HX.out.1, HX.out.2.1, HX.out.2.2.1, HX.out.2.2.2.1, HX.out.2.2.2.2.1, HX.out.2.2.2.2.2 _ _ (by omega) HRR.out⟩
            case measure => simp [intOf]; omega
        · obtain rfl : m = N.length := by omega
          have k0 := hq.cell 0
          have k1 := hq.cell 1
          have k2 := hq.cell 2
          have k0' : wr.cell? ⟨w.heap.size + 1, 0, none⟩ = some (.slice Ap k cp) := k0
          have k1' : wr.cell? ⟨w.heap.size + 1, 1, none⟩ = some (.slice An N.length cn) := k1
          have k2' : wr.cell? ⟨w.heap.size + 1, 2, none⟩ = some (.bool false) := k2
          have r0 : wr.cell? ⟨w.heap.size, 0, none⟩ = some (.slice none 0 0) := HRR.out.cell 0
          have r1 : wr.cell? ⟨w.heap.size, 1, none⟩ = some (.slice none 0 0) := HRR.out.cell 1
          have r2 : wr.cell? ⟨w.heap.size, 2, none⟩ = some (.bool false) := HRR.out.cell 2
          have s0 := HRR.out.frozen 0
          have s1 := HRR.out.frozen 1
          have s2 := HRR.out.frozen 2
          clear hq hpos ho hts hbw k0 k1 k2
          go_wp2
          have hR := ((HRR.out.set_ 0 (.slice Ap k cp)).set_ 1 (.slice An N.length cn)).set_ 2 (.bool false)
          refine bodyPost_ret (v := .agg #[.slice Ap k cp, .slice An N.length cn, .bool false]) ?_ rfl ⟨_, _, rfl, ?_, ?_, ?_⟩
          · simp [results, Try.results21, go_sem, r0, r1, r2]
          · exact pos_set (pos_set (pos_set HP.out HRR.out) (HRR.out.set_ 0 _)) ((HRR.out.set_ 0 _).set_ 1 _)
          · exact nam_set (nam_set (nam_set ⟨xs, Ho.out, Hts.out⟩ HRR.out) (HRR.out.set_ 0 _)) ((HRR.out.set_ 0 _).set_ 1 _)
          · exact ((Hbw.out.setCell (Nat.le_refl _) _).setCell (Nat.le_refl _) _).setCell (Nat.le_refl _) _
end Go.Proofs.Ytppmdncmjcknkaa
