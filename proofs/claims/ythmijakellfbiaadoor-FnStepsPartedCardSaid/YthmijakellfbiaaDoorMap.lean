/-
  Maps of the call's own whose keys are texts, read as functions. Conditions: none.
-/
import Derived.Test.YthmijakellfbiaaDoorMem
import Derived.MapKept
import Derived.Maps.OwnOps
import Derived.Laws.Entries
import Derived.Laws.MakeOwn
namespace Go.Proofs.YthmijakellfbiaaDoor
open Go.RowKit Go.MapKept
set_option linter.unusedVariables false

def mfind : List (ByteArray × Value) → ByteArray → Nat → Option (Nat × Value)
  | [], _, _ => none
  | (k, v) :: l, s, i => if s = k then some (i, v) else mfind l s (i + 1)
def mget (l : List (ByteArray × Value)) (s : ByteArray) : Option Value := (mfind l s 0).map (·.2)
/-- Block b is a map that reads as f. -/
def FMap (w : World) (b : Nat) (f : ByteArray → Option Value) : Prop :=
  ∃ (es : Array MapEntry) (clock : Nat) (l : List (ByteArray × Value)), w.heap[b]? = some (.map es clock) ∧ es.toList.map (fun e => (e.key, e.val)) = l.map (fun p => (Value.string p.1, p.2)) ∧ ∀ s, mget l s = f s

theorem findNow_str (s : ByteArray) : ∀ (es : List MapEntry) (l : List (ByteArray × Value)) (i : Nat), es.map (fun e => (e.key, e.val)) = l.map (fun p => (Value.string p.1, p.2)) → Instr.findNow .string (.string s) es i = some (mfind l s i)
  | [], [], i, _ => rfl
  | [], p :: l, i, h => by simp at h
  | e :: es, [], i, h => by simp at h
  | e :: es, (k, v) :: l, i, h => by
    simp only [List.map_cons, List.cons.injEq, Prod.mk.injEq] at h
    obtain ⟨⟨h1, h2⟩, h3⟩ := h
    unfold Instr.findNow mfind
    rw [h1]
    by_cases hsk : s = k
    · have : Instr.sameNow .string (.string s) (.string k) = some true := by
        show some (s == k) = _
        rw [(bytes_beq s k).2 hsk]
      rw [this, if_pos hsk, h2]
    · have : Instr.sameNow .string (.string s) (.string k) = some false := by
        show some (s == k) = _
        cases hb : (s == k) with
        | false => rfl
        | true => exact absurd ((bytes_beq s k).1 hb) hsk
      rw [this, if_neg hsk]
      exact findNow_str s es l (i + 1) h3
theorem mfind_at : ∀ {l : List (ByteArray × Value)} {s : ByteArray} {i j : Nat} {v : Value}, mfind l s i = some (j, v) → ∃ n, j = i + n ∧ l[n]? = some (s, v) ∧ ∀ m p, m < n → l[m]? = some p → p.1 ≠ s
  | (k, v') :: l, s, i, j, v, h => by
    unfold mfind at h
    split at h
    · rename_i e
      injection h with h
      injection h with h1 h2
      subst h1 h2 e
      exact ⟨0, by omega, rfl, fun m p hm => by omega⟩
    · rename_i e
      obtain ⟨n, h1, h2, h3⟩ := mfind_at h
      refine ⟨n + 1, by omega, h2, fun m p hm hp => ?_⟩
      cases m with
      | zero => simp at hp; subst hp; exact fun he => e he.symm
      | succ m => exact h3 m p (by omega) hp
theorem mfind_shift : ∀ (l : List (ByteArray × Value)) (s : ByteArray) (i : Nat), (mfind l s i).map (·.2) = (mfind l s 0).map (·.2)
  | [], s, i => rfl
  | (k, v) :: l, s, i => by
    unfold mfind
    split
    · rfl
    · rw [mfind_shift l s (i + 1), mfind_shift l s (0 + 1)]
theorem mget_cons (k : ByteArray) (v : Value) (l : List (ByteArray × Value)) (s : ByteArray) : mget ((k, v) :: l) s = if s = k then some v else mget l s := by
  show (mfind ((k, v) :: l) s 0).map (·.2) = _
  unfold mfind
  split
  · rfl
  · exact mfind_shift l s 1
theorem mget_push : ∀ (l : List (ByteArray × Value)) (s : ByteArray) (v : Value), mget l s = none → ∀ t, mget (l ++ [(s, v)]) t = if s = t then some v else mget l t
  | [], s, v, _, t => by
    rw [List.nil_append, mget_cons]
    by_cases h : s = t
    · rw [if_pos h.symm, if_pos h]
    · rw [if_neg (Ne.symm h), if_neg h]
  | (k, u) :: l, s, v, h, t => by
    rw [mget_cons] at h
    split at h
    · simp at h
    · rename_i hsk
      rw [List.cons_append, mget_cons, mget_cons, mget_push l s v h t]
      by_cases htk : t = k
      · rw [if_pos htk, if_pos htk, if_neg (by rw [htk]; exact hsk)]
      · rw [if_neg htk, if_neg htk]
theorem mget_set : ∀ (l : List (ByteArray × Value)) (n : Nat) (s : ByteArray) (v u : Value), l[n]? = some (s, u) → (∀ m p, m < n → l[m]? = some p → p.1 ≠ s) → ∀ t, mget (l.set n (s, v)) t = if s = t then some v else mget l t
  | (k, x) :: l, 0, s, v, u, h, _, t => by
    simp at h
    obtain ⟨rfl, rfl⟩ := h
    rw [List.set_cons_zero, mget_cons, mget_cons]
    by_cases h : k = t
    · rw [if_pos h.symm, if_pos h]
    · rw [if_neg (Ne.symm h), if_neg h, if_neg (Ne.symm h)]
  | (k, x) :: l, n + 1, s, v, u, h, hn, t => by
    rw [List.set_cons_succ, mget_cons, mget_cons, mget_set l n s v u h (fun m p hm hp => hn (m + 1) p (by omega) hp) t]
    have hks : k ≠ s := hn 0 (k, x) (by omega) rfl
    by_cases h : t = k
    · rw [if_pos h, if_pos h, if_neg (by rw [h]; exact Ne.symm hks)]
    · rw [if_neg h, if_neg h]

section
variable {P : Program} {w : World} {b : Nat} {f : ByteArray → Option Value}
theorem FMap.new (w : World) : FMap (w.alloc (.map #[] 0)) w.heap.size (fun _ => none) := ⟨#[], 0, [], (heap_alloc w _).1, rfl, fun _ => rfl⟩
theorem FMap.at_ {w' : World} (h : FMap w b f) (hk : w'.heap[b]? = w.heap[b]?) : FMap w' b f := by
  obtain ⟨es, cl, l, h1, h2⟩ := h
  exact ⟨es, cl, l, hk.trans h1, h2⟩
theorem FMap.lt (h : FMap w b f) : b < w.heap.size := by
  obtain ⟨es, cl, l, h1, h2⟩ := h
  exact (Array.getElem?_eq_some_iff.1 h1).1
theorem FMap.below {w' : World} (h : FMap w b f) (hb : Below w.heap.size w w') : FMap w' b f := h.at_ (hb.block b h.lt)
theorem FMap.alloc (h : FMap w b f) (o : Obj) : FMap (w.alloc o) b f := h.at_ (Below.heap_alloc w o b h.lt)
theorem FMap.grown {w' : World} {row : Option Nat} (h : FMap w b f) (hg : w.grownBy w' row) (hne : some b ≠ row) : FMap w' b f := h.at_ (hg.block b h.lt hne)
theorem FMap.set_ (h : FMap w b f) {p : Addr} (hp : b ≠ p.block) (u : Value) : FMap (w.setCell p u) b f := h.at_ (Below.heap_setCell w p u b hp)
theorem FMap.get {t k e : TypeId} (h : FMap w b f) (ht : P.underlying t = some (.map k e)) (hk : P.underlying k = some .string) {z : Value} (hz : (zeroValue e).run P w = .ok z w) (s : ByteArray) (ok : Bool) :
    (Instr.lookup t (.map (some b)) (.string s) ok).run P w = .ok (if ok then .tuple #[(f s).getD z, .bool (f s).isSome] else (f s).getD z) w := by
  obtain ⟨es, cl, l, h1, h2, h3⟩ := h
  have hf := findNow_str s es.toList l 0 h2
  have hr := run_findKey (w := w) hk hf
  have hc : (Instr.checkKey es.isEmpty 10000 k (.string s)).run P w = .ok () w := run_checkKey hk (by simp [IsKey]) _ 9999
  have hg := h3 s
  unfold mget at hg
  have hgo := Go.MapKept.run_getObj_map (P := P) h1
  unfold Instr.lookup
  simp only [Sem.run_bind, run_underlying ht, Result.andThen_ok, hgo, Sem.run_pure, hc, hr]
  cases hm : mfind l s 0 with
  | none =>
    rw [hm] at hg
    simp at hg
    simp [← hg, hz]
  | some p =>
    rw [hm] at hg
    simp at hg
    simp [← hg]
theorem FMap.put {t k e : TypeId} (h : FMap w b f) (ht : P.underlying t = some (.map k e)) (hk : P.underlying k = some .string) (s : ByteArray) (v : Value) :
    ∃ w', (Instr.mapUpdate t (.map (some b)) (.string s) v).run P w = .ok () w' ∧ FMap w' b (fun x => if s = x then some v else f x) ∧ w.grownBy w' (some b) := by
  obtain ⟨es, cl, l, h1, h2, h3⟩ := h
  have hf := findNow_str s es.toList l 0 h2
  have hr := run_findKey (w := w) hk hf
  have hc : (Instr.checkKey false 10000 k (.string s)).run P w = .ok () w := run_checkKey hk (by simp [IsKey]) _ 9999
  have hg := h3 s
  unfold mget at hg
  have hgo := Go.MapKept.run_getObj_map (P := P) h1
  unfold Instr.mapUpdate
  simp only [Sem.run_bind, run_underlying ht, Result.andThen_ok, hgo, hc, hr]
  cases hm : mfind l s 0 with
  | none =>
    rw [hm] at hg
    simp at hg
    simp only
    refine ⟨_, run_setObj_map _ h1, ⟨es.push { key := .string s, val := v, born := cl }, cl + 1, l ++ [(s, v)], (heap_set h1).1, by simp [h2], fun x => ?_⟩, ⟨rfl, rfl, rfl, by simp, fun i _ hi => (heap_set h1).2 i (fun e => hi (by rw [e]))⟩⟩
    rw [mget_push l s v (by rw [h3 s, ← hg]) x, h3 x]
  | some p =>
    obtain ⟨j, u⟩ := p
    obtain ⟨n, rfl, hn, hfirst⟩ := mfind_at hm
    rw [Nat.zero_add] at *
    have hkey : ∃ e0, es[n]? = some e0 ∧ e0.key = .string s := by
      have : (es.toList.map (fun e => (e.key, e.val)))[n]? = some (.string s, u) := by rw [h2, List.getElem?_map, hn]; rfl
      rw [List.getElem?_map, Array.getElem?_toList] at this
      cases he : es[n]? with
      | none => rw [he] at this; simp at this
      | some e0 =>
        rw [he] at this
        simp at this
        exact ⟨e0, rfl, this.1⟩
    obtain ⟨e0, he0, hk0⟩ := hkey
    have hks : ((es[n]?).map (·.key)).getD (.string s) = .string s := by rw [he0]; simp [hk0]
    simp only [hks, Sem.run_bind]
    rw [run_keyThatStays (P := P) (d := .string) (by simp [IsKey])]
    simp only [Result.andThen_ok]
    refine ⟨_, run_setObj_map _ h1, ⟨es.modify n fun e => { e with key := .string s, val := v }, cl, l.set n (s, v), (heap_set h1).1, ?_, fun x => ?_⟩, ⟨rfl, rfl, rfl, by simp, fun i _ hi => (heap_set h1).2 i (fun e => hi (by rw [e]))⟩⟩
    · apply List.ext_getElem?
      intro i
      have hi : (es.toList.map (fun e => (e.key, e.val)))[i]? = (l.map (fun p => (Value.string p.1, p.2)))[i]? := by rw [h2]
      rw [List.getElem?_map, List.getElem?_map] at hi
      rw [List.getElem?_map, List.getElem?_map, Array.getElem?_toList, Array.getElem?_modify, List.getElem?_set]
      rw [Array.getElem?_toList] at hi
      have hnl : n < l.length := (List.getElem?_eq_some_iff.1 hn).1
      by_cases hin : n = i
      · subst hin
        rw [if_pos rfl, if_pos rfl, if_pos hnl, he0]
        rfl
      · rw [if_neg hin, if_neg hin]
        exact hi
    · rw [mget_set l n s v u hn hfirst x, h3 x]
end

section
variable {P : Program} (w : World) {ops : Array Oper} {rest : List Oper} {o : Oper} {a : Act} {Q : Exit → Act → World → Prop}
theorem wpList_get (hg : o.guard = none) (m x : Operand) (t : TypeId) (ok : Bool) (hop : o.op = Op.lookup t m x ok) (k e : TypeId) (ht : P.underlying t = some (.map k e)) (hk : P.underlying k = some .string)
    (z : Value) (hz : ∀ w, (zeroValue e).run P w = .ok z w) (b : Nat) (f : ByteArray → Option Value) (hm : a.eval m = .map (some b)) (hf : FMap w b f) (s : ByteArray) (hx : a.eval x = .string s)
    (hK : wpList P ops Q rest (a.put o.dst (if ok then .tuple #[(f s).getD z, .bool (f s).isSome] else (f s).getD z)) w) : wpList P ops Q (o :: rest) a w := by
  refine wpList_plain hg fun K' hK' => ?_
  have hrun := hf.get (P := P) ht hk (hz w) s ok
  unfold Oper.wp
  simp only [execOp, hop, hm, hx, Sem.run_bind, hrun, Result.andThen_ok, Sem.run_pure]
  exact hK' _ _ hK
theorem wpList_getok (hg : o.guard = none) (m x : Operand) (t : TypeId) (hop : o.op = Op.lookup t m x true) (k e : TypeId) (ht : P.underlying t = some (.map k e)) (hk : P.underlying k = some .string)
    (z : Value) (hz : ∀ w, (zeroValue e).run P w = .ok z w) (b : Nat) (f : ByteArray → Option Value) (hm : a.eval m = .map (some b)) (hf : FMap w b f) (s : ByteArray) (hx : a.eval x = .string s)
    (hK : wpList P ops Q rest (a.put o.dst (.tuple #[(f s).getD z, .bool (f s).isSome])) w) : wpList P ops Q (o :: rest) a w :=
  wpList_get w hg m x t true hop k e ht hk z hz b f hm hf s hx hK
theorem wpList_getv (hg : o.guard = none) (m x : Operand) (t : TypeId) (hop : o.op = Op.lookup t m x false) (k e : TypeId) (ht : P.underlying t = some (.map k e)) (hk : P.underlying k = some .string)
    (z : Value) (hz : ∀ w, (zeroValue e).run P w = .ok z w) (b : Nat) (f : ByteArray → Option Value) (hm : a.eval m = .map (some b)) (hf : FMap w b f) (s : ByteArray) (hx : a.eval x = .string s)
    (hK : wpList P ops Q rest (a.put o.dst ((f s).getD z)) w) : wpList P ops Q (o :: rest) a w :=
  wpList_get w hg m x t false hop k e ht hk z hz b f hm hf s hx hK
theorem wpList_put (hg : o.guard = none) (m x v : Operand) (t : TypeId) (hop : o.op = Op.mapUpdate t m x v) (k e : TypeId) (ht : P.underlying t = some (.map k e)) (hk : P.underlying k = some .string)
    (b : Nat) (f : ByteArray → Option Value) (hm : a.eval m = .map (some b)) (hf : FMap w b f) (s : ByteArray) (val : Value) (hx : a.eval x = .string s) (hv : a.eval v = val)
    (hK : ∀ w', FMap w' b (fun x => if s = x then some val else f x) → w.grownBy w' (some b) → wpList P ops Q rest (a.put o.dst undef) w') : wpList P ops Q (o :: rest) a w := by
  refine wpList_plain hg fun K' hK' => ?_
  obtain ⟨w', hrun, h1, h2⟩ := hf.put (P := P) ht hk s val
  unfold Oper.wp
  simp only [execOp, hop, hm, hx, hv, Sem.run_bind, hrun, Result.andThen_ok, Sem.run_pure]
  exact hK' _ _ (hK w' h1 h2)
theorem run_makeMap_hint (t k e : TypeId) (kd : IntKind) (n : Int) (ht : P.underlying t = some (.map k e)) (w : World) :
    (Instr.makeMap t (some (.int kd n))).run P w = .ok (.map (some w.heap.size)) (w.alloc (.map #[] 0)) := by
  simp [Instr.makeMap, run_underlying ht]; rfl
end
end Go.Proofs.YthmijakellfbiaaDoor
