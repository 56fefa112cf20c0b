/-
  Lists of numbers and arrays of thunks. Conditions: none.
-/
import Derived.Test.YtnnmdceppjmooaaNum
import Derived.Test.YtnnmdceppjmooaaMake
import Derived.Deep.QuietTactic
import Derived.BigQuiet
import Derived.RegionTactic
import Derived.Deep.RegionLaw
import Derived.Deep.AppendLies
import Derived.OwnWalk
import Derived.Laws.CopyOwn
namespace Go.Proofs.Ytnnmdceppjmooaa
open Go.RowKit
set_option linter.unusedVariables false
set_option linter.unusedSimpArgs false

theorem num_made (x : Nat) (w : World) : Calls Try.prog 30 #[.float .f64 x] w fun e w' =>
    e = .returned (.iface 92 (.pointer (some ⟨w.heap.size, 0, none⟩))) ∧ w' = w.alloc (.cells #[.float .f64 x] 97) := by
  go_enter Try.func30, Try.ntmps30
  go_wp2
  go_ret
  exact ⟨rfl, rfl⟩
theorem intval_any (n : Int) (w : World) : Calls Try.prog 41 #[.int .i64 n] w fun e w' =>
    e = .returned (.pointer (some ⟨w.heap.size, 0, none⟩)) ∧ w' = w.alloc (.cells #[.float .f64 (floatOfInt .f64 n)] 97) := by
  go_enter Try.func41, Try.ntmps41
  go_wp2_with fail
  go_at_call 44
  refine (made_any _ _).mono ?_
  rintro e' w1 ⟨rfl, rfl⟩
  go_wp2
  go_ret
  exact ⟨rfl, rfl⟩
theorem ready_any (t : TypeId) (v : Value) (w : World) : Calls Try.prog 58 #[.iface t v] w fun e w' =>
    e = .returned (.pointer (some ⟨w.heap.size, 0, none⟩)) ∧ w' = w.alloc (.cells #[.pointer none, .nilIface, .iface t v, .nilIface] 117) := by
  go_enter Try.func58, Try.ntmps58
  go_wp2
  go_ret
  exact ⟨rfl, rfl⟩

theorem own_base {w : World} {base base' n size : Nat} {t : TypeId} {v : Value} {xs : List Value} (h : w.ownsRow base t size v n xs) (hb : base' ≤ base) : w.ownsRow base' t size v n xs := by
  refine ⟨h.1, ?_⟩
  rcases h.2 with h | ⟨g, cap, cur, rfl, h1, h2⟩
  · exact .inl h
  · exact .inr ⟨g, cap, cur, rfl, by omega, h2⟩

/-- A list of words. -/
def floats (xs : List Nat) : List Value := xs.map (Value.float .f64)
theorem floats_length (xs : List Nat) : (floats xs).length = xs.length := by simp [floats]
theorem floats_at {xs : List Nat} {k x : Nat} (h : xs[k]? = some x) : (floats xs)[k]? = some (.float .f64 x) := by simp [floats, h]
theorem floats_one (xs : List Nat) : ∀ u ∈ floats xs, u.oneCell' = true := by
  intro u hu
  simp only [floats, List.mem_map] at hu
  obtain ⟨x, _, rfl⟩ := hu
  rfl
theorem floats_snoc {xs : List Nat} {k x : Nat} (h : xs[k]? = some x) : floats (xs.take (k + 1)) = floats (xs.take k) ++ [.float .f64 x] := by
  obtain ⟨hk, rfl⟩ := List.getElem?_eq_some_iff.1 h
  unfold floats
  rw [List.take_succ_eq_append_getElem hk, List.map_append]
  rfl
/-- Words lie there. -/
def Flo (w : World) (A : Option Addr) (xs : List Nat) : Prop := Reads w w.heap.size 1 A xs.length (floats xs)
theorem Flo.below {w w' : World} {A : Option Addr} {xs : List Nat} (h : Flo w A xs) (hb : Below w.heap.size w w') : Flo w' A xs := (Reads.below h hb).more hb.size
theorem Flo.at_ {w : World} {A : Option Addr} {xs : List Nat} (h : Flo w A xs) {k : Nat} (hk : k < xs.length) : ∃ ad x, A = some ad ∧ ad.block < w.heap.size ∧ xs[k]? = some x ∧ w.cell? (ad.add k) = some (.float .f64 x) := by
  obtain ⟨ad, u, e, hb, hx, hc⟩ := Reads.at_ h hk
  have hs : xs[k]? = some xs[k] := List.getElem?_eq_getElem hk
  rw [floats_at hs] at hx
  injection hx with hx
  subst hx
  exact ⟨ad, _, e, hb, hs, hc⟩

/-- A thunk that holds a number. -/
def Thk (w : World) (v : Value) (x : Nat) : Prop := ∃ t p : Nat, v = .pointer (some ⟨t, 0, none⟩) ∧
  Blk w t 117 #[.pointer none, .nilIface, .iface 92 (.pointer (some ⟨p, 0, none⟩)), .nilIface] ∧ Blk w p 97 #[.float .f64 x]
def NumKeep (w w' : World) : Prop := ∀ (g : Nat) (t : TypeId) (cs : Array Value), t = 117 ∨ t = 97 → Blk w g t cs → Blk w' g t cs
theorem Thk.keep {w w' : World} {v : Value} {n : Nat} (h : Thk w v n) (hk : NumKeep w w') : Thk w' v n := by
  obtain ⟨t, p, e, h1, h2⟩ := h
  exact ⟨t, p, e, hk _ _ _ (.inl rfl) h1, hk _ _ _ (.inr rfl) h2⟩
theorem NumKeep.below {w w' : World} (h : Below w.heap.size w w') : NumKeep w w' := fun g t cs _ hb => hb.later h
theorem NumKeep.trans {a b c : World} (h : NumKeep a b) (k : NumKeep b c) : NumKeep a c := fun g t cs ht hb => k g t cs ht (h g t cs ht hb)
theorem NumKeep.grown {w w' : World} {base n size : Nat} {e : TypeId} {v : Value} {xs : List Value} (ho : w.ownsRow base e size v n xs) (hg : w.grownBy w' v.ownBlock) (h1 : e ≠ 117) (h2 : e ≠ 97) : NumKeep w w' := fun g t cs ht hb =>
  hb.grown hg (fun h => own_blk_ne ho hb (by rcases ht with rfl | rfl; exact h1; exact h2) h.symm)
/-- Thunks of these numbers. -/
def Thks (w : World) (vs : List Value) (xs : List Nat) : Prop := vs.length = xs.length ∧ ∀ (j : Nat) (u : Value) (x : Nat), vs[j]? = some u → xs[j]? = some x → Thk w u x
theorem Thks.keep {w w' : World} {vs : List Value} {xs : List Nat} (h : Thks w vs xs) (hk : NumKeep w w') : Thks w' vs xs := ⟨h.1, fun j u x a b => (h.2 j u x a b).keep hk⟩
theorem Thks.nil (w : World) : Thks w [] [] := ⟨rfl, fun j u x h => by simp at h⟩
theorem Thks.one {w : World} {vs : List Value} {xs : List Nat} (h : Thks w vs xs) : ∀ v ∈ vs, v.oneCell' = true := fun v hv => by
  obtain ⟨j, hj, rfl⟩ := List.getElem_of_mem hv
  obtain ⟨t0, p0, e, _⟩ := h.2 j _ _ (List.getElem?_eq_getElem hj) (List.getElem?_eq_getElem (h.1 ▸ hj))
  rw [e]; rfl
theorem Thks.append {w : World} {vs us : List Value} {xs ys : List Nat} (h : Thks w vs xs) (k : Thks w us ys) : Thks w (vs ++ us) (xs ++ ys) := by
  refine ⟨by simp [h.1, k.1], fun j u x a b => ?_⟩
  have hl := h.1
  by_cases hj : j < vs.length
  · rw [List.getElem?_append_left hj] at a
    rw [List.getElem?_append_left (by omega)] at b
    exact h.2 j u x a b
  · rw [List.getElem?_append_right (by omega)] at a
    rw [List.getElem?_append_right (by omega)] at b
    rw [hl] at a
    exact k.2 _ u x a b
theorem Thks.take {w : World} {vs : List Value} {xs : List Nat} (h : Thks w vs xs) (k : Nat) : Thks w (vs.take k) (xs.take k) := by
  refine ⟨by simp [h.1], fun j u x a b => ?_⟩
  rw [List.getElem?_take] at a b
  split at a
  · rename_i hj
    rw [if_pos hj] at b
    exact h.2 j u x a b
  · cases a
theorem Thks.drop {w : World} {vs : List Value} {xs : List Nat} (h : Thks w vs xs) (k : Nat) : Thks w (vs.drop k) (xs.drop k) := by
  refine ⟨by simp [h.1], fun j u x a b => ?_⟩
  rw [List.getElem?_drop] at a b
  exact h.2 _ u x a b

/-- A number and a thunk of it. -/
def thunked (wr : World) (x : Nat) : World :=
  (wr.alloc (.cells #[.float .f64 x] 97)).alloc (.cells #[.pointer none, .nilIface, .iface 92 (.pointer (some ⟨wr.heap.size, 0, none⟩)), .nilIface] 117)
theorem thunked_thk (wr : World) (n : Nat) : Thk (thunked wr n) (.pointer (some ⟨wr.heap.size + 1, 0, none⟩)) n := by
  refine ⟨wr.heap.size + 1, wr.heap.size, rfl, ?_, ?_⟩
  · have := Blk.new (wr.alloc (.cells #[.float .f64 n] 97)) 117 #[.pointer none, .nilIface, .iface 92 (.pointer (some ⟨wr.heap.size, 0, none⟩)), .nilIface]
    rwa [show (wr.alloc (.cells #[.float .f64 n] 97)).heap.size = wr.heap.size + 1 by simp] at this
  · exact (Blk.new wr 97 #[.float .f64 n]).alloc _
theorem thunked_below (wr : World) (n : Nat) : Below wr.heap.size wr (thunked wr n) := ((Below.refl _ _).alloc (Nat.le_refl _) _).alloc (by simp) _
theorem thunked_size (wr : World) (n : Nat) : (thunked wr n).heap.size = wr.heap.size + 2 := by simp [thunked]

/-- An array of these numbers. -/
def Arr (w : World) (p : Nat) (xs : List Nat) : Prop := ∃ (A : Option Addr) (c : Nat) (vs : List Value), Blk w p 111 #[.slice A xs.length c] ∧ xs.length ≤ c ∧ Reads w w.heap.size 1 A xs.length vs ∧ Thks w vs xs
theorem Arr.below {w w' : World} {p : Nat} {xs : List Nat} (h : Arr w p xs) (hb : Below w.heap.size w w') : Arr w' p xs := by
  obtain ⟨A, c, vs, h1, h2, h3, h4⟩ := h
  exact ⟨A, c, vs, h1.later hb, h2, (h3.below hb).more hb.size, h4.keep (NumKeep.below hb)⟩
/-- What makes an array returns it. -/
def ArrOut (w : World) (xs : List Nat) (e : Ending) (w' : World) : Prop := ∃ p, e = .returned (.pointer (some ⟨p, 0, none⟩)) ∧ Arr w' p xs ∧ Below w.heap.size w w'

theorem info_ptr : (Try.prog.info? 112).map (fun i => (i.zero, i.size, i.bytes)) = some (some (.pointer none), 1, 8) := by kernel_rfl
theorem info_float : (Try.prog.info? 22).map (fun i => (i.zero, i.size, i.bytes)) = some (some (.float .f64 0), 1, 8) := by kernel_rfl

set_option maxRecDepth 100000 in
theorem array_any (v : Value) (vs : List Value) (xs : List Nat) (w : World) (B : Nat) (ho : w.ownsRow B 112 1 v xs.length vs) (ht : Thks w vs xs) (hx : xs.length ≤ 1000) :
    Calls Try.prog 57 #[v] w (ArrOut w xs) := by
  obtain ⟨A, c, rfl, hc⟩ := own_form ho
  have hr := Reads.of_own ho
  have HR := Lib.hid hr
  have HT := Lib.hid ht
  clear ho hr ht
  by_cases hcc : xs.length = c
  · subst hcc
    clear hc
    go_enter Try.func57, Try.ntmps57
    go_wp2
    go_ret
    refine ⟨_, rfl, ⟨A, xs.length, vs, Blk.new w _ _, Nat.le_refl _, ?_, HT.out.keep (NumKeep.below ((Below.refl _ _).alloc (Nat.le_refl _) _))⟩, (Below.refl _ _).alloc (Nat.le_refl _) _⟩
    exact (HR.out.below ((Below.refl _ _).alloc (Nat.le_refl _) _)).more (by simp)
  · have hmk := fun (W : World) => run_make_one (P := Try.prog) 109 112 Try.underlying109 info_ptr rfl .i64 .i64 xs.length (by omega) (by omega) W
    have hcc1 : ¬ (xs.length : Int) = (c : Int) := by omega
    have hcc2 : ((xs.length : Int) == (c : Int)) = false := by rw [beq_eq_false_iff_ne]; omega
    have hblk : Hid ((w.alloc (.cells (Array.replicate xs.length (Value.pointer none)) 112)).heap[w.heap.size]? = some (.cells (List.replicate xs.length (Value.pointer none)).toArray 112 (0, 0))) := by
      have := heap_alloc_new w (.cells (Array.replicate xs.length (Value.pointer none)) 112)
      show _ = _
      rw [this]
      simp
    have hvl := HT.out.1
    have Hsrc : Hid (0 < vs.length → (some (⟨w.heap.size, 0, none⟩ : Addr) = some ⟨w.heap.size, 0, none⟩) ∧ ∃ ad, A = some ad ∧ ∀ (j : Nat) (v : Value), vs[j]? = some v → (w.alloc (.cells (Array.replicate xs.length (Value.pointer none)) 112)).cell? (ad.add j) = some v) := fun h0 => by
      obtain ⟨ad, hA, hb, hcell⟩ := HR.out.2 (by omega)
      exact ⟨rfl, ad, hA, fun j v hj => (World.cell?_alloc_lt w _ _ (by rw [block_of_add]; exact hb)).trans (hcell j v hj)⟩
    have Hmin : Hid (vs.length = Nat.min xs.length xs.length) := by show _ = _; rw [hvl]; exact (Nat.min_self _).symm
    have Hvl := Lib.hid hvl
    clear hvl
    go_enter Try.func57, Try.ntmps57
    go_wp2_with ((with_reducible refine wpList_copy_splice rfl (.tmp 13) (.tmp 14) _ _ rfl 112 Try.underlying109 (by kernel_rfl) (some ⟨w.heap.size, 0, none⟩) A xs.length xs.length xs.length c rfl rfl w.heap.size 0 (List.replicate xs.length (Value.pointer none)) 112 hblk.out vs Hmin.out Hsrc.out (by rw [List.length_replicate, Hvl.out]; omega) HT.out.one w.heap.size _ (Below.refl _ _) (Nat.le_refl _) ?_); intro w2 hF2 hB2)
    have hF3 : Blk w2 w.heap.size 112 vs.toArray := by
      have := hF2.out
      rw [show splice (List.replicate xs.length (Value.pointer none)) 0 vs = vs by simp [splice, Hvl.out]] at this
      exact this
    have hB : Below w.heap.size w w2 := ((Below.refl _ _).alloc (Nat.le_refl _) _).trans hB2
    have hs := hB.size
    have hl := hF3.lt
    have HF := Lib.hid hF3
    have HB := Lib.hid hB
    clear hF2 hB2 hF3 hB hblk Hmin Hsrc
    go_wp2
    go_ret
    refine ⟨_, rfl, ⟨_, _, vs, Blk.new w2 _ _, Nat.le_refl _, ⟨by rw [Hvl.out]; omega, fun hn => ⟨_, rfl, by simp; omega, fun j u hj => ?_⟩⟩, HT.out.keep (NumKeep.below (HB.out.alloc hs _))⟩, HB.out.alloc hs _⟩
    have := (HF.out.alloc (.cells #[.slice (some ⟨w.heap.size, 0, none⟩) xs.length xs.length] 111)).cell j
    rw [show (⟨w.heap.size, 0, none⟩ : Addr).add j = ⟨w.heap.size, j, none⟩ by unfold Addr.add; split <;> simp_all, this]
    simpa using hj
end Go.Proofs.Ytnnmdceppjmooaa
