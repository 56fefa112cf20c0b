/-
  Bytes of the own; spec.again. Conditions: none.
-/
import Derived.Test.YtdjnknkdnacbnaaDoorTxtB
import Derived.Lib.AppendStr
import Derived.Deep.AppendLies
import Derived.OwnWalk
import Derived.Lib.BufferKept
namespace Go.Proofs.YtdjnknkdnacbnaaDoor
open Go.RowKit
set_option linter.unusedVariables false
set_option linter.unusedSimpArgs false

theorem news_at (w : World) (n : Nat) (cs : List Value) (t : TypeId) (hn : w.heap.size = n) : ∀ (j : Nat) (u : Value), cs[j]? = some u → (w.alloc (.cells cs.toArray t)).cell? ((⟨n, 0, none⟩ : Addr).add j) = some u := by
  subst hn
  intro j u h
  exact World.news_of_block (cs := cs.toArray) (t := t) (fr := (0, 0)) (heap_alloc_new w _) j u (by simpa using h)
/-- A row of bytes of the own. -/
def Byt (w : World) (base : Nat) (v : Value) (l : List UInt8) : Prop := w.ownsRow base 5 1 v l.length (Lib.byteCells l)
theorem Byt.nil (w : World) (base : Nat) : Byt w base (.slice none 0 0) [] := World.ownsRow_nil _ _ _ _
theorem Byt.kind {w : World} {base : Nat} {v : Value} {l : List UInt8} (h : Byt w base v l) : ∀ g, v.ownBlock = some g → ∃ c fz, w.heap[g]? = some (.cells c 5 fz) := by
  intro g hg
  rcases h.2 with ⟨rfl, _⟩ | ⟨g', cap, cur, rfl, _, hgg, _⟩
  · simp [Value.ownBlock] at hg
  · simp [Value.ownBlock] at hg
    subst hg
    exact ⟨_, _, hgg⟩
theorem Byt.below {w w' : World} {base : Nat} {v : Value} {l : List UInt8} (h : Byt w base v l) (hb : Below w.heap.size w w') : Byt w' base v l := ownsRow_below h hb
/-- The frame of what writes bytes of the own. -/
def Fr (base : Nat) (w w' : World) : Prop := Below base w w' ∧ Lib.OthersKept 5 none w w'
theorem Fr.refl (base : Nat) (w : World) : Fr base w w := ⟨Below.refl _ _, Lib.OthersKept.refl _ _ _⟩
theorem Fr.trans {base : Nat} {a b c : World} (h : Fr base a b) (k : Fr base b c) : Fr base a c := ⟨h.1.trans k.1, h.2.trans k.2⟩
theorem Fr.alloc {base : Nat} {a w : World} (h : Fr base a w) (hb : base ≤ w.heap.size) (o : Obj) : Fr base a (w.alloc o) := ⟨h.1.alloc hb o, h.2.alloc o⟩
theorem Fr.drew {base : Nat} {a w : World} (h : Fr base a w) : Fr base a w.drew := ⟨h.1.drew, h.2⟩
theorem Fr.grown {base : Nat} {a w w' : World} {v : Value} {l : List UInt8} (h : Fr base a w) (ho : Byt w base v l) (hb : base ≤ w.heap.size) (hg : w.grownBy w' v.ownBlock) : Fr base a w' :=
  ⟨h.1.grown hg hb (fun a ha => (ho.lt a ha).1), h.2.grown hg ho.kind⟩
/-- Bytes handed back. -/
def GaveB (w : World) (base : Nat) (l : List UInt8) (e : Ending) (w' : World) : Prop := ∃ v, e = .returned v ∧ Byt w' base v l ∧ Fr base w w'

theorem info_byte : (Tryd.prog.info? 5).map (fun i => (i.zero, i.size, i.bytes)) = some (some (.int .u8 0), 1, 1) := by kernel_rfl
theorem byt_snoc {l : List UInt8} (c : UInt8) : Lib.byteCells (l ++ [c]) = Lib.byteCells l ++ [.int .u8 c.toNat] := by simp [Lib.byteCells]

set_option maxRecDepth 100000 in
theorem again_any (base : Nat) (v : Value) (l : List UInt8) (c : UInt8) (n : Nat) (hn : n ≤ 1000) (hl : l.length ≤ 100000000) (w : World) (hbase : base ≤ w.heap.size) (h : Byt w base v l) :
    Calls Tryd.prog 15 #[v, .int .u8 c.toNat, .int .i64 n] w (GaveB w base (l ++ List.replicate n c)) := by
  obtain ⟨i5, hi5, hz5, hz5', hz5''⟩ := info_parts info_byte
  have Ho := Lib.hid h
  have Hl := Lib.hid hl
  obtain ⟨m, hm⟩ : ∃ m : Int, m = (c.toNat : Int) := ⟨_, rfl⟩
  rw [← hm]
  have Hm := Lib.hid hm
  clear h hl hm
  go_enter Tryd.func15, Tryd.ntmps15
  go_wp2
  go_loopw [0, 8] (fun out i wr => ∃ k : Nat, k ≤ n ∧ i = .int .i64 k ∧ Byt wr base out (l ++ List.replicate k c) ∧ Fr base w wr) (fun _ i _ => n - (intOf i).toNat)
  case atStart => exact ⟨0, by omega, rfl, by simpa using Ho.out, Fr.refl _ _⟩
  case round =>
    obtain ⟨k, hk, rfl, ho, hf⟩ := hrel
    have Ho2 := Lib.hid ho
    have Hf := Lib.hid hf
    have hsw := hf.1.size
    by_cases hlt : k < n
    · have hlen : (l ++ List.replicate k c).length ≤ 100001000 := by have := Hl.out; simp; omega
      have Hlen := Lib.hid hlen
      clear ho hf hlen
      go_wp2_with (at_builtin; refine wpList_append_lies _ rfl (.tmp 10) (.tmp 12) _ rfl base 5 i5 _ 1 1 Tryd.underlying38 hi5 hz5 hz5' hz5'' rfl (by omega) u0 (l ++ List.replicate k c).length (Lib.byteCells (l ++ List.replicate k c)) rfl (Ho2.out.alloc _) ⟨wr.heap.size, 0, none⟩ 1 1 [.int .u8 m] rfl rfl (news_at _ _ _ _ (by simp)) (by simp [Value.oneCell']) (by omega) (by have := Hlen.out; simp only [maxLen]; omega) (by have := Hlen.out; omega) (by simp; omega) (wr.heap.size + 1) (by simp) ?_; intro g2 cap2 w4 hown4 hg4 hat4 hlt4)
      have hN : Hid (Byt w4 base (.slice (some ⟨g2, 0, none⟩) (l.length + k + 1) cap2) (l ++ List.replicate (k + 1) c)) := by
        show World.ownsRow _ _ _ _ _ _ _
        rw [show l.length + k + 1 = (l ++ List.replicate k c).length + 1 by simp]
        have e : l ++ List.replicate (k + 1) c = (l ++ List.replicate k c) ++ [c] := by rw [List.replicate_succ', List.append_assoc]
        rw [e, byt_snoc, ← Hm.out, List.length_append (bs := [c])]
        exact hown4
      have hF := Lib.hid ((Hf.out.alloc (by have := Hf.out.1.size; omega) _).grown (Byt.below Ho2.out ((Below.refl _ _).alloc (Nat.le_refl _) _)) (by have := Hf.out.1.size; simp; omega) hg4)
      clear hown4 hg4 hat4 hlt4
      go_wp2
      go_roundw
      case rel => exact ⟨k + 1, by omega, by go_num, hN.out, hF.out⟩
      case measure => simp [intOf]; omega
    · obtain rfl : n = k := by omega
      clear ho hf
      go_wp2
      go_ret
      exact ⟨_, rfl, Ho2.out, Hf.out⟩
end Go.Proofs.YtdjnknkdnacbnaaDoor
