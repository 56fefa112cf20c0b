/-
  Trees as lists of nodes. Conditions: none.
-/
import Derived.Test.YtionkdlcagikaaaBlk
import Derived.WalkKit
import Derived.WalkSpells
import Derived.Lib.Hide
import Derived.Outline
import Derived.Deep.QuietTactic
import Derived.BigQuiet
import Derived.Deep.RegionHeld3
namespace Go.Proofs.Ytionkdlcagikaaa
open Go.RowKit
set_option linter.unusedVariables false

structure Nd where
  kind : Int
  op : Int
  text : ByteArray
  flag : Int
  size : Int
def cellsN (n : Nd) : List Value := [.int .i64 n.kind, .int .i64 n.op, .string n.text, .int .i64 n.flag, .int .i64 n.size]
def aggN (n : Nd) : Value := .agg #[.int .i64 n.kind, .int .i64 n.op, .string n.text, .int .i64 n.flag, .int .i64 n.size]
def flatN : List Nd → List Value
  | [] => []
  | n :: T => cellsN n ++ flatN T
theorem flatN_len : ∀ T : List Nd, (flatN T).length = T.length * 5
  | [] => rfl
  | n :: T => by
    have ih := flatN_len T
    simp only [flatN, List.length_append, List.length_cons, cellsN, List.length_nil, ih]
    omega
theorem flatN_append : ∀ S T : List Nd, flatN (S ++ T) = flatN S ++ flatN T
  | [], T => rfl
  | n :: S, T => by simp only [List.cons_append, flatN, flatN_append S T, List.append_assoc]
theorem flatN_one : ∀ (T : List Nd), ∀ u ∈ flatN T, u.oneCell' = true
  | [], u, h => by simp [flatN] at h
  | n :: T, u, h => by
    simp only [flatN, List.mem_append] at h
    rcases h with h | h
    · simp only [cellsN, List.mem_cons, List.not_mem_nil, or_false] at h
      rcases h with rfl | rfl | rfl | rfl | rfl <;> rfl
    · exact flatN_one T u h
theorem flatN_at : ∀ {T : List Nd} {k j : Nat} {n : Nd} {v : Value}, T[k]? = some n → (cellsN n)[j]? = some v → (flatN T)[k * 5 + j]? = some v
  | [], k, j, n, v, h, _ => by simp at h
  | m :: T, 0, j, n, v, h, hv => by
    simp only [List.getElem?_cons_zero, Option.some.injEq] at h
    subst h
    have hj : j < (cellsN m).length := (List.getElem?_eq_some_iff.1 hv).1
    rw [flatN, Nat.zero_mul, Nat.zero_add, List.getElem?_append_left hj]
    exact hv
  | m :: T, k + 1, j, n, v, h, hv => by
    simp only [List.getElem?_cons_succ] at h
    have ih := flatN_at h hv
    have h1 : (cellsN m).length = 5 := rfl
    rw [flatN, List.getElem?_append_right (by rw [h1]; omega), h1, show (k + 1) * 5 + j - 5 = k * 5 + j by omega]
    exact ih
/-- A tree lies there. -/
def Nodes (w : World) (v : Value) (T : List Nd) : Prop := ∃ (A : Option Addr) (c : Nat), v = .slice A T.length c ∧ T.length ≤ c ∧ Reads w w.heap.size 5 A T.length (flatN T)
theorem Nodes.below {w w' : World} {v : Value} {T : List Nd} (h : Nodes w v T) (hb : Below w.heap.size w w') : Nodes w' v T := by
  obtain ⟨A, c, e, hc, hr⟩ := h
  exact ⟨A, c, e, hc, (hr.below hb).more hb.size⟩
/-- A node's five cells. -/
theorem Reads.node {w : World} {B : Nat} {A : Option Addr} {T : List Nd} (h : Reads w B 5 A T.length (flatN T)) {k : Nat} {n : Nd} (hk : T[k]? = some n) :
    ∃ ad : Addr, A = some ad ∧ ad.block < B ∧ w.cell? (ad.add (k * 5)) = some (.int .i64 n.kind) ∧ w.cell? ⟨(ad.add (k * 5)).block, (ad.add (k * 5)).off + 1, none⟩ = some (.int .i64 n.op) ∧
      w.cell? ⟨(ad.add (k * 5)).block, (ad.add (k * 5)).off + 2, none⟩ = some (.string n.text) ∧ w.cell? ⟨(ad.add (k * 5)).block, (ad.add (k * 5)).off + 3, none⟩ = some (.int .i64 n.flag) ∧
      w.cell? ⟨(ad.add (k * 5)).block, (ad.add (k * 5)).off + 4, none⟩ = some (.int .i64 n.size) := by
  have hl := (List.getElem?_eq_some_iff.1 hk).1
  obtain ⟨ad, e, hb, hc⟩ := h.2 (by omega)
  have g : ∀ j v, (cellsN n)[j]? = some v → w.cell? ((ad.add (k * 5)).add j) = some v := fun j v hv => by
    rw [add_of_add]
    exact hc _ _ (flatN_at hk hv)
  exact ⟨ad, e, hb, g 0 _ rfl, g 1 _ rfl, g 2 _ rfl, g 3 _ rfl, g 4 _ rfl⟩
/-- Trees' kids. -/
def tot : List (List Nd) → Nat
  | [] => 0
  | T :: L => T.length + tot L
theorem tot_flat : ∀ L : List (List Nd), L.flatten.length = tot L
  | [] => rfl
  | T :: L => by simp only [List.flatten_cons, List.length_append, tot, tot_flat L]
/-- What Made makes. -/
def mk (n : Nd) (L : List (List Nd)) : List Nd := { n with size := (L.flatten.length : Int) + 1 } :: L.flatten
theorem mk_len (n : Nd) (L : List (List Nd)) : (mk n L).length = L.flatten.length + 1 := by simp [mk]
/-- Slices of trees lie there. -/
def Trees (w : World) (v : Value) (L : List (List Nd)) : Prop := ∃ (A : Option Addr) (c : Nat) (us : List Value), v = .slice A L.length c ∧ L.length ≤ c ∧ Reads w w.heap.size 1 A L.length us ∧ ∀ (k : Nat) (T : List Nd), L[k]? = some T → ∃ u, us[k]? = some u ∧ Nodes w u T
theorem Trees.below {w w' : World} {v : Value} {L : List (List Nd)} (h : Trees w v L) (hb : Below w.heap.size w w') : Trees w' v L := by
  obtain ⟨A, c, us, e, hc, hr, hk⟩ := h
  exact ⟨A, c, us, e, hc, (hr.below hb).more hb.size, fun k T hT => by obtain ⟨u, h1, h2⟩ := hk k T hT; exact ⟨u, h1, h2.below hb⟩⟩
theorem Trees.none_ (w : World) : Trees w (.slice none 0 0) [] := ⟨none, 0, [], rfl, Nat.le_refl _, Reads.none_, fun k T h => by simp at h⟩
end Go.Proofs.Ytionkdlcagikaaa
