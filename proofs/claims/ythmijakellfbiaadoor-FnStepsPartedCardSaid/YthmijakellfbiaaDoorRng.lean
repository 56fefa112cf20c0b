/-
  Maps whose keys are texts, ranged over in whatever order. Conditions: none.
-/
import Derived.Test.YthmijakellfbiaaDoorMap
import Derived.Maps.Range
import Derived.Maps.RangeWalk
import Derived.Lib.Hide
namespace Go.Proofs.YthmijakellfbiaaDoor
open Go.RowKit Go.MapKept
open Go.ChangeMaps (setBlock)
set_option linter.unusedVariables false

/-- The entries read as this list. -/
def Ents (es : Array MapEntry) (l : List (ByteArray × Value)) : Prop := es.toList.map (fun e => (e.key, e.val)) = l.map (fun p => (Value.string p.1, p.2))
/-- Block b is a map of at most n entries that reads as f; no key twice, no stamp twice. -/
def RMap (w : World) (b n : Nat) (f : ByteArray → Option Value) : Prop :=
  ∃ (es : Array MapEntry) (clock : Nat) (l : List (ByteArray × Value)), w.heap[b]? = some (.map es clock) ∧ Ents es l ∧ (∀ s, mget l s = f s) ∧ (l.map (·.1)).Nodup ∧ (∀ e ∈ es.toList, e.born < clock) ∧ (es.toList.map (·.born)).Nodup ∧ es.size ≤ n
section
variable {P : Program} {w : World} {b n : Nat} {f : ByteArray → Option Value}
theorem RMap.fmap (h : RMap w b n f) : FMap w b f := by
  obtain ⟨es, cl, l, h1, h2, h3, _⟩ := h
  exact ⟨es, cl, l, h1, h2, h3⟩
theorem RMap.new (w : World) (n : Nat) : RMap (w.alloc (.map #[] 0)) w.heap.size n (fun _ => none) := ⟨#[], 0, [], (heap_alloc w _).1, rfl, fun _ => rfl, by simp, by simp, by simp, by simp⟩
theorem RMap.new_at {n' : Nat} (h : w.heap.size = n') (n : Nat) : RMap (w.alloc (.map #[] 0)) n' n (fun _ => none) := by subst h; exact RMap.new w n
theorem RMap.at_ {w' : World} (h : RMap w b n f) (hk : w'.heap[b]? = w.heap[b]?) : RMap w' b n f := by
  obtain ⟨es, cl, l, h1, h2⟩ := h
  exact ⟨es, cl, l, hk.trans h1, h2⟩
theorem RMap.lt (h : RMap w b n f) : b < w.heap.size := h.fmap.lt
theorem RMap.below {w' : World} (h : RMap w b n f) (hb : Below w.heap.size w w') : RMap w' b n f := h.at_ (hb.block b h.lt)
theorem RMap.alloc (h : RMap w b n f) (o : Obj) : RMap (w.alloc o) b n f := h.at_ (Below.heap_alloc w o b h.lt)
theorem RMap.grown {w' : World} {row : Option Nat} (h : RMap w b n f) (hg : w.grownBy w' row) (hne : some b ≠ row) : RMap w' b n f := h.at_ (hg.block b h.lt hne)
theorem RMap.more {n' : Nat} (h : RMap w b n f) (hn : n ≤ n') : RMap w b n' f := by
  obtain ⟨es, cl, l, h1, h2, h3, h4, h5, h6, h7⟩ := h
  exact ⟨es, cl, l, h1, h2, h3, h4, h5, h6, by omega⟩
theorem RMap.eq_ {g : ByteArray → Option Value} (h : RMap w b n f) (e : ∀ s, f s = g s) : RMap w b n g := by
  obtain ⟨es, cl, l, h1, h2, h3, h4⟩ := h
  exact ⟨es, cl, l, h1, h2, fun s => (h3 s).trans (e s), h4⟩
theorem mget_none {s : ByteArray} : ∀ {l : List (ByteArray × Value)}, mget l s = none → s ∉ l.map (·.1)
  | [], _ => by simp
  | (k, v) :: l, h => by
    rw [mget_cons] at h
    split at h
    · cases h
    · rename_i hne
      simp only [List.map_cons, List.mem_cons, not_or]
      exact ⟨hne, mget_none h⟩
theorem mget_mem {s : ByteArray} {v : Value} : ∀ {l : List (ByteArray × Value)}, (l.map (·.1)).Nodup → (s, v) ∈ l → mget l s = some v
  | [], _, h => by simp at h
  | (k, u) :: l, hn, h => by
    rw [mget_cons]
    simp only [List.map_cons, List.nodup_cons] at hn
    rcases List.mem_cons.1 h with e | h'
    · injection e with e1 e2
      rw [if_pos e1, e2]
    · have : s ≠ k := fun e => hn.1 (by rw [← e]; exact List.mem_map.2 ⟨_, h', rfl⟩)
      rw [if_neg this]
      exact mget_mem hn.2 h'
theorem mget_in {s : ByteArray} {v : Value} : ∀ {l : List (ByteArray × Value)}, mget l s = some v → (s, v) ∈ l
  | [], h => by cases h
  | (k, u) :: l, h => by
    rw [mget_cons] at h
    split at h
    · rename_i e
      injection h with h
      rw [e, h]
      exact List.mem_cons_self ..
    · exact List.mem_cons_of_mem _ (mget_in h)
theorem RMap.put {t k e : TypeId} (h : RMap w b n f) (ht : P.underlying t = some (.map k e)) (hk : P.underlying k = some .string) (s : ByteArray) (v : Value) :
    ∃ w', (Instr.mapUpdate t (.map (some b)) (.string s) v).run P w = .ok () w' ∧ RMap w' b (n + 1) (fun x => if s = x then some v else f x) ∧ w.grownBy w' (some b) := by
  obtain ⟨es, cl, l, h1, h2, h3, h4, h5, h6, h7⟩ := h
  have hf := findNow_str s es.toList l 0 h2
  have hr := run_findKey (w := w) hk hf
  have hc : (Instr.checkKey false 10000 k (.string s)).run P w = .ok () w := run_checkKey hk (by simp [IsKey]) _ 9999
  have hg := h3 s
  have hgo := Go.MapKept.run_getObj_map (P := P) h1
  unfold Instr.mapUpdate
  simp only [Sem.run_bind, run_underlying ht, Result.andThen_ok, hgo, hc, hr]
  cases hm : mfind l s 0 with
  | none =>
    have hg0 : mget l s = none := by unfold mget; rw [hm]; rfl
    simp only
    refine ⟨_, run_setObj_map _ h1, ⟨es.push { key := .string s, val := v, born := cl }, cl + 1, l ++ [(s, v)], (heap_set h1).1, by unfold Ents at h2 ⊢; simp [h2], fun x => ?_, ?_, ?_, ?_, by simp; omega⟩, ⟨rfl, rfl, rfl, by simp, fun i _ hi => (heap_set h1).2 i (fun e => hi (by rw [e]))⟩⟩
    · rw [mget_push l s v hg0 x, h3 x]
    · rw [List.map_append, List.nodup_append]
      refine ⟨h4, by simp, fun a ha c hcc => ?_⟩
      simp at hcc
      subst hcc
      intro e
      subst e
      exact mget_none hg0 ha
    · intro e he
      simp at he
      rcases he with he | rfl
      · have := h5 e (by simpa using he); omega
      · simp
    · rw [Array.toList_push, List.map_append, List.nodup_append]
      refine ⟨h6, by simp, fun a ha c hcc => ?_⟩
      simp at hcc
      subst hcc
      intro e
      subst e
      obtain ⟨x, hx, e⟩ := List.mem_map.1 ha
      have := h5 x hx
      omega
  | some p =>
    obtain ⟨j, u⟩ := p
    obtain ⟨m, rfl, hn, hfirst⟩ := mfind_at hm
    rw [Nat.zero_add] at *
    have hkey : ∃ e0, es[m]? = some e0 ∧ e0.key = .string s := by
      have : (es.toList.map (fun e => (e.key, e.val)))[m]? = some (.string s, u) := by rw [h2, List.getElem?_map, hn]; rfl
      rw [List.getElem?_map, Array.getElem?_toList] at this
      cases he : es[m]? with
      | none => rw [he] at this; simp at this
      | some e0 =>
        rw [he] at this
        simp at this
        exact ⟨e0, rfl, this.1⟩
    obtain ⟨e0, he0, hk0⟩ := hkey
    have hks : ((es[m]?).map (·.key)).getD (.string s) = .string s := by rw [he0]; simp [hk0]
    simp only [hks, Sem.run_bind]
    rw [run_keyThatStays (P := P) (d := .string) (by simp [IsKey])]
    simp only [Result.andThen_ok]
    have hml : m < l.length := (List.getElem?_eq_some_iff.1 hn).1
    have hborn : ((es.modify m fun e => { e with key := .string s, val := v }).toList.map (·.born)) = es.toList.map (·.born) := by
      apply List.ext_getElem?
      intro i
      rw [List.getElem?_map, List.getElem?_map, Array.getElem?_toList, Array.getElem?_toList, Array.getElem?_modify]
      split
      · cases es[i]? <;> rfl
      · rfl
    refine ⟨_, run_setObj_map _ h1, ⟨es.modify m fun e => { e with key := .string s, val := v }, cl, l.set m (s, v), (heap_set h1).1, ?_, fun x => ?_, ?_, ?_, ?_, by simp; omega⟩, ⟨rfl, rfl, rfl, by simp, fun i _ hi => (heap_set h1).2 i (fun e => hi (by rw [e]))⟩⟩
    · apply List.ext_getElem?
      intro i
      have hi : (es.toList.map (fun e => (e.key, e.val)))[i]? = (l.map (fun p => (Value.string p.1, p.2)))[i]? := by rw [h2]
      rw [List.getElem?_map, List.getElem?_map] at hi
      rw [List.getElem?_map, List.getElem?_map, Array.getElem?_toList, Array.getElem?_modify, List.getElem?_set]
      rw [Array.getElem?_toList] at hi
      by_cases hin : m = i
      · subst hin
        rw [if_pos rfl, if_pos rfl, if_pos hml, he0]
        rfl
      · rw [if_neg hin, if_neg hin]
        exact hi
    · rw [mget_set l m s v u hn hfirst x, h3 x]
    · have : (l.set m (s, v)).map (·.1) = l.map (·.1) := by
        apply List.ext_getElem?
        intro i
        rw [List.getElem?_map, List.getElem?_map, List.getElem?_set]
        by_cases hin : m = i
        · subst hin
          rw [if_pos rfl, if_pos hml, hn]
          rfl
        · rw [if_neg hin]
      rw [this]
      exact h4
    · intro e he
      obtain ⟨x, hx, e1⟩ : ∃ x ∈ es.toList, x.born = e.born := by
        have : e.born ∈ es.toList.map (·.born) := by rw [← hborn]; exact List.mem_map.2 ⟨e, he, rfl⟩
        obtain ⟨x, hx, e1⟩ := List.mem_map.1 this
        exact ⟨x, hx, e1⟩
      have := h5 x hx
      omega
    · rw [hborn]
      exact h6

/-- Block r is an iterator over map b: the keys D have been met; cnt entries are still to come. -/
def Rit (w : World) (r b n : Nat) (f : ByteArray → Option Value) (D : List ByteArray) (cnt : Nat) : Prop :=
  ∃ (es : Array MapEntry) (clock since : Nat) (seen : Array Nat) (c0 : Nat) (l : List (ByteArray × Value)), w.heap[b]? = some (.map es clock) ∧ Ents es l ∧ (∀ s, mget l s = f s) ∧ (l.map (·.1)).Nodup ∧ (∀ e ∈ es.toList, e.born < clock) ∧ (es.toList.map (·.born)).Nodup ∧ es.size ≤ n ∧
    w.heap[r]? = some (.mapIter (some b) since seen c0) ∧ (∀ x ∈ es.toList, x.born < since) ∧ since ≤ c0 ∧ since ≤ clock ∧ (leftOf es seen).size = cnt ∧ cnt + D.length ≤ n ∧ D.Nodup ∧
    (∀ e ∈ es.toList, ∀ s, e.key = .string s → (seen.contains e.born = true ↔ s ∈ D)) ∧ ∀ s ∈ D, (f s).isSome = true
theorem Rit.rmap {r cnt : Nat} {D : List ByteArray} (h : Rit w r b n f D cnt) : RMap w b n f := by
  obtain ⟨es, cl, _, _, _, l, h1, h2, h3, h4, h5, h6, h7, _⟩ := h
  exact ⟨es, cl, l, h1, h2, h3, h4, h5, h6, h7⟩
theorem Rit.ne {r cnt : Nat} {D : List ByteArray} (h : Rit w r b n f D cnt) : r ≠ b := by
  obtain ⟨es, cl, _, _, _, l, h1, _, _, _, _, _, _, h8, _⟩ := h
  intro e
  rw [e, h1] at h8
  cases h8
theorem Rit.lt {r cnt : Nat} {D : List ByteArray} (h : Rit w r b n f D cnt) : r < w.heap.size := by
  obtain ⟨es, cl, _, _, _, l, _, _, _, _, _, _, _, h8, _⟩ := h
  exact (Array.getElem?_eq_some_iff.1 h8).1
theorem Rit.left_eq {r cnt : Nat} {D : List ByteArray} (h : Rit w r b n f D cnt) : w.rangeLeft b r = cnt := by
  obtain ⟨es, cl, _, seen, _, l, h1, _, _, _, _, _, _, h8, _, _, _, h12, _⟩ := h
  simp only [World.rangeLeft, h1, h8]
  exact h12
theorem Rit.len {r cnt : Nat} {D : List ByteArray} (h : Rit w r b n f D cnt) : D.length ≤ n := by
  obtain ⟨_, _, _, _, _, _, _, _, _, _, _, _, _, _, _, _, _, _, h13, _⟩ := h
  omega
theorem Rit.nodup {r cnt : Nat} {D : List ByteArray} (h : Rit w r b n f D cnt) : D.Nodup := by
  obtain ⟨_, _, _, _, _, _, _, _, _, _, _, _, _, _, _, _, _, _, _, h14, _⟩ := h
  exact h14
theorem Rit.has {r cnt : Nat} {D : List ByteArray} (h : Rit w r b n f D cnt) : ∀ s ∈ D, (f s).isSome = true := by
  obtain ⟨_, _, _, _, _, _, _, _, _, _, _, _, _, _, _, _, _, _, _, _, _, h16⟩ := h
  exact h16
theorem Rit.kept {w' : World} {row : Option Nat} {r cnt : Nat} {D : List ByteArray} (h : Rit w r b n f D cnt) (hg : w.grownBy w' row) (hb' : some b ≠ row) (hr' : some r ≠ row) : Rit w' r b n f D cnt := by
  have h1 := h.rmap.lt
  have h2 := h.lt
  obtain ⟨es, cl, si, se, c0, l, a1, a2, a3, a4, a5, a6, a7, a8, rest⟩ := h
  exact ⟨es, cl, si, se, c0, l, (hg.block b h1 hb').trans a1, a2, a3, a4, a5, a6, a7, (hg.block r h2 hr').trans a8, rest⟩
theorem Rit.alloc {r cnt : Nat} {D : List ByteArray} (h : Rit w r b n f D cnt) (o : Obj) : Rit (w.alloc o) r b n f D cnt := h.kept (World.grownBy_alloc w o none) (by simp) (by simp)
theorem Rit.below {w' : World} {r cnt : Nat} {D : List ByteArray} (h : Rit w r b n f D cnt) (hb : Below w.heap.size w w') : Rit w' r b n f D cnt := h.kept (row := none) ⟨hb.os, hb.tape, hb.output, hb.size, fun i hi _ => hb.block i hi⟩ (by simp) (by simp)
theorem RMap.range {t k e : TypeId} (h : RMap w b n f) (ht : P.underlying t = some (.map k e)) :
    ∃ w' cnt, (Instr.range t (.map (some b))).run P w = .ok (.pointer (some ⟨w.heap.size, 0, none⟩)) w' ∧ Rit w' w.heap.size b n f [] cnt ∧ Below w.heap.size w w' ∧ w'.heap.size = w.heap.size + 1 := by
  have hlt := h.lt
  obtain ⟨es, cl, l, h1, h2, h3, h4, h5, h6, h7⟩ := h
  refine ⟨_, es.size, run_range_map w t k e b es cl ht h1, ⟨es, cl, cl, #[], cl, l, ((MapKept.heap_alloc w _).2 b hlt).trans h1, h2, h3, h4, h5, h6, h7, (MapKept.heap_alloc w _).1, h5, Nat.le_refl _, Nat.le_refl _, ?_, by simpa using h7, by simp, ?_, by simp⟩, (Below.refl _ _).alloc (Nat.le_refl _) _, by simp⟩
  · simp [leftOf]
  · intro x hx s hs
    simp
theorem ents_at {es : Array MapEntry} {l : List (ByteArray × Value)} (h : Ents es l) {e : MapEntry} (he : e ∈ es.toList) : ∃ s, e.key = .string s ∧ (s, e.val) ∈ l := by
  have : (e.key, e.val) ∈ es.toList.map (fun e => (e.key, e.val)) := List.mem_map.2 ⟨e, he, rfl⟩
  rw [h] at this
  obtain ⟨p, hp, e1⟩ := List.mem_map.1 this
  injection e1 with e1 e2
  exact ⟨p.1, e1.symm, by rw [← e2]; exact hp⟩
theorem ents_of {es : Array MapEntry} {l : List (ByteArray × Value)} (h : Ents es l) {s : ByteArray} {v : Value} (hs : (s, v) ∈ l) : ∃ e ∈ es.toList, e.key = .string s ∧ e.val = v := by
  have : (Value.string s, v) ∈ l.map (fun p => (Value.string p.1, p.2)) := List.mem_map.2 ⟨(s, v), hs, rfl⟩
  rw [← h] at this
  obtain ⟨e, he, e1⟩ := List.mem_map.1 this
  injection e1 with e1 e2
  exact ⟨e, he, e1, e2⟩
theorem pair_key {es : List MapEntry} {l : List (ByteArray × Value)} (h : es.map (fun e => (e.key, e.val)) = l.map (fun p => (Value.string p.1, p.2))) (hn : (l.map (·.1)).Nodup) : es.Pairwise (fun x y => x.key ≠ y.key) := by
  have h1 : es.map (·.key) = (l.map (·.1)).map Value.string := by
    have := congrArg (List.map Prod.fst) h
    rw [List.map_map, List.map_map] at this
    rw [List.map_map]
    exact this
  have h2 : ((l.map (·.1)).map Value.string).Nodup := by
    unfold List.Nodup
    rw [List.pairwise_map]
    exact hn.imp fun hne e => hne (by injection e)
  rw [← h1] at h2
  unfold List.Nodup at h2
  rwa [List.pairwise_map] at h2
/-- The step. -/
theorem Rit.next {r cnt : Nat} {D : List ByteArray} (h : Rit w r b n f D cnt) (ty : TypeId) :
    ((∀ s, (f s).isSome = true → s ∈ D) ∧ (Instr.next (.pointer (some ⟨r, 0, none⟩)) false ty).run P w = .ok (.tuple #[.bool false]) w) ∨
    ∃ s v w' cnt', f s = some v ∧ s ∉ D ∧ (Instr.next (.pointer (some ⟨r, 0, none⟩)) false ty).run P w = .ok (.tuple #[.bool true, .string s, v]) w' ∧ Rit w' r b n f (D ++ [s]) cnt' ∧ cnt' < cnt ∧ w.grownBy w' (some r) ∧ w'.heap.size = w.heap.size ∧
      (Instr.entry (.pointer (some ⟨r, 0, none⟩))).run P w' = .ok (.tuple #[.string s, v]) w' := by
  have hne := h.ne
  obtain ⟨es, cl, since, seen, c0, l, h1, h2, h3, h4, h5, h6, h7, h8, h9, h10, h11, rfl, h13, h14, h15, h16⟩ := h
  rcases run_next_at (P := P) w ty r b since c0 seen es cl h8 h1 h9 h10 with ⟨h0, hrun⟩ | ⟨e, he, w1, hal, hrun⟩
  · refine Or.inl ⟨fun s hs => ?_, hrun⟩
    obtain ⟨v, hv⟩ := Option.isSome_iff_exists.1 hs
    rw [← h3 s] at hv
    obtain ⟨e, he, ek, _⟩ := ents_of h2 (mget_in hv)
    exact (h15 e he s ek).1 (all_seen es seen h0 e he)
  · obtain ⟨hem, hes⟩ := mem_left he
    obtain ⟨s, hk, hl⟩ := ents_at h2 hem
    have hfs : f s = some e.val := by rw [← h3 s]; exact mget_mem h4 hl
    have hsD : s ∉ D := fun hd => by
      have := (h15 e hem s hk).2 hd
      rw [hes] at this
      cases this
    have hr1 : w1.heap[r]? = some (.mapIter (some b) since seen c0) := by rcases hal with rfl | rfl <;> exact h8
    have hb1 : w1.heap[b]? = some (.map es cl) := by rcases hal with rfl | rfl <;> exact h1
    have hset := heap_set (o' := .mapIter (some b) since (seen.push e.born) cl) hr1
    have hb' : (setBlock w1 r (.mapIter (some b) since (seen.push e.born) cl)).heap[b]? = some (.map es cl) := (hset.2 b (fun e1 => hne e1.symm)).trans hb1
    have hsh := left_shrinks es seen e he
    rw [hk] at hrun
    refine Or.inr ⟨s, e.val, _, _, hfs, hsD, hrun, ⟨es, cl, since, seen.push e.born, cl, l, hb', h2, h3, h4, h5, h6, h7, hset.1, h9, h11, h11, rfl, ?_, ?_, fun x hx s' hs' => ?_, fun s' hs' => ?_⟩, hsh, ?_, ?_, ?_⟩
    · rw [List.length_append]
      simp
      omega
    · rw [List.nodup_append]
      refine ⟨h14, by simp, fun a ha c hc => ?_⟩
      simp at hc
      subst hc
      intro e1
      subst e1
      exact hsD ha
    · rw [contains_push, Bool.or_eq_true, h15 x hx s' hs', List.mem_append, List.mem_singleton]
      have : ((x.born == e.born) = true) ↔ s' = s := by
        rw [beq_iff_eq]
        constructor
        · intro hb
          have := born_inj h6 hx hem hb
          subst this
          rw [hs'] at hk
          injection hk
        · intro e1
          subst e1
          have := entry_eq_of_key (pair_key h2 h4) hx hem (by rw [hs', hk])
          rw [this]
      rw [this]
    · rcases List.mem_append.1 hs' with hd | hd
      · exact h16 s' hd
      · simp at hd
        subst hd
        rw [hfs]
        rfl
    · rcases hal with rfl | rfl <;> exact ⟨rfl, rfl, rfl, by simp [setBlock], fun i _ hi => hset.2 i (fun e1 => hi (by rw [e1]))⟩
    · rcases hal with rfl | rfl <;> simp [setBlock]
    · have := run_entry_at (P := P) _ r b since seen es cl e hset.1 hb' hem h6
      rw [hk] at this
      exact this
end
section
variable {P : Program} (w : World) {ops : Array Oper} {rest : List Oper} {o : Oper} {a : Act} {Q : Exit → Act → World → Prop}
theorem wpList_rput (hg : o.guard = none) (m x v : Operand) (t : TypeId) (hop : o.op = Op.mapUpdate t m x v) (k e : TypeId) (ht : P.underlying t = some (.map k e)) (hk : P.underlying k = some .string)
    (b n : Nat) (f : ByteArray → Option Value) (hm : a.eval m = .map (some b)) (hf : RMap w b n f) (s : ByteArray) (val : Value) (hx : a.eval x = .string s) (hv : a.eval v = val)
    (hK : ∀ w', RMap w' b (n + 1) (fun x => if s = x then some val else f x) → w.grownBy w' (some b) → wpList P ops Q rest (a.put o.dst undef) w') : wpList P ops Q (o :: rest) a w := by
  refine wpList_plain hg fun K' hK' => ?_
  obtain ⟨w', hrun, h1, h2⟩ := hf.put (P := P) ht hk s val
  unfold Oper.wp
  simp only [execOp, hop, hm, hx, hv, Sem.run_bind, hrun, Result.andThen_ok, Sem.run_pure]
  exact hK' _ _ (hK w' h1 h2)
theorem wpList_rrange (hg : o.guard = none) (m : Operand) (t : TypeId) (hop : o.op = Op.range t m) (k e : TypeId) (ht : P.underlying t = some (.map k e)) (b n : Nat) (f : ByteArray → Option Value) (hm : a.eval m = .map (some b)) (hf : RMap w b n f)
    (hK : ∀ w' cnt, Rit w' w.heap.size b n f [] cnt → Below w.heap.size w w' → w'.heap.size = w.heap.size + 1 → wpList P ops Q rest (a.put o.dst (.pointer (some ⟨w.heap.size, 0, none⟩))) w') : wpList P ops Q (o :: rest) a w := by
  refine wpList_plain hg fun K' hK' => ?_
  obtain ⟨w', cnt, hrun, r1, r2, r3⟩ := hf.range (P := P) ht
  unfold Oper.wp
  simp [execOp, hop, hm, hrun, Result.andThen]
  exact hK' _ _ (hK w' cnt r1 r2 r3)
theorem wpList_rnext (hg : o.guard = none) (it : Operand) (hop : o.op = Op.next it false) (b r n : Nat) (f : ByteArray → Option Value) (D : List ByteArray) (cnt : Nat) (hit : a.eval it = .pointer (some ⟨r, 0, none⟩)) (h : Rit w r b n f D cnt)
    (hDone : Hid (∀ s, (f s).isSome = true → s ∈ D) → wpList P ops Q rest (a.put o.dst (.tuple #[.bool false])) w)
    (hMore : ∀ (s : ByteArray) (v : Value) (w' : World) (cnt' : Nat), Hid (f s = some v ∧ s ∉ D ∧ Rit w' r b n f (D ++ [s]) cnt' ∧ cnt' < cnt ∧ w.grownBy w' (some r) ∧ w'.heap.size = w.heap.size) →
      (Instr.entry (.pointer (some ⟨r, 0, none⟩))).run P w' = .ok (.tuple #[.string s, v]) w' → wpList P ops Q rest (a.put o.dst (.tuple #[.bool true, .string s, v])) w') : wpList P ops Q (o :: rest) a w := by
  refine wpList_plain hg fun K' hK' => ?_
  unfold Oper.wp
  rcases h.next (P := P) o.type with ⟨hl, hrun⟩ | ⟨s, v, w', cnt', hfs, hsD, hrun, hrg, hlt, hgr, hsz, hen⟩
  · simp [execOp, hop, hit, hrun, Result.andThen]
    exact hK' _ _ (hDone (Lib.hid hl))
  · simp [execOp, hop, hit, hrun, Result.andThen]
    exact hK' _ _ (hMore s v w' cnt' (Lib.hid ⟨hfs, hsD, hrg, hlt, hgr, hsz⟩) hen)
theorem RMap.len {b n : Nat} {f : ByteArray → Option Value} {w : World} {t k e : TypeId} (h : RMap w b n f) (ht : P.underlying t = some (.map k e)) (ty : TypeId) : ∃ m : Nat, m ≤ n ∧ (Builtin.len_ #[t] ty #[.map (some b)]).run P w = .ok (.int .i64 m) w := by
  obtain ⟨es, cl, l, h1, h2, h3, h4, h5, h6, h7⟩ := h
  exact ⟨es.size, h7, by simp [Builtin.len_, run_underlying ht, MapKept.run_getObj_map h1, goInt, Result.andThen]⟩
theorem wpList_rlen (hg : o.guard = none) (m : Operand) (t : TypeId) (hop : o.op = Op.call { callee := Callee.builtin Builtin.len, args := #[m], argTypes := #[t] }) (k e : TypeId) (ht : P.underlying t = some (.map k e)) (b n : Nat) (f : ByteArray → Option Value) (hm : a.eval m = .map (some b)) (hf : RMap w b n f)
    (hK : ∀ j : Nat, j ≤ n → wpList P ops Q rest (a.put o.dst (.int .i64 j)) w) : wpList P ops Q (o :: rest) a w := by
  refine wpList_plain hg fun K' hK' => ?_
  obtain ⟨j, hj, hrun⟩ := hf.len (P := P) ht o.type
  unfold Oper.wp
  simp [execOp, hop, resolve, invoke, builtin, hm, hrun, Result.andThen]
  exact hK' _ _ (hK j hj)
end
end Go.Proofs.YthmijakellfbiaaDoor
