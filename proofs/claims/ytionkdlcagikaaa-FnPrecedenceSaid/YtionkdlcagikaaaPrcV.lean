/-
  The trees are made; how close they bind. Conditions: none.
-/
import Derived.Test.YtionkdlcagikaaaPrcT
namespace Go.Proofs.Ytionkdlcagikaaa
open Go.RowKit
set_option linter.unusedVariables false
set_option linter.unusedSimpArgs false

def PrecOf (T : List Nd) (z : Int) : Prop := ∀ (w : World) (v : Value), Nodes w v T → Calls Try.prog 5 #[v, .int .i64 0] w (PrecTo z w)
theorem prec_of (T : List Nd) (t : TypeId) (z : Int) (hF : Fit T) (hm : RootOf T t Any) (hp : ∀ (g : Nat) (w1 : World), Calls Try.prog 10 #[.iface t (.pointer (some ⟨g, 0, none⟩))] w1 fun e w' => e = .returned (.int .i64 z) ∧ w1 = w') : PrecOf T z := by
  intro w v h
  obtain ⟨A, c, rfl, hc, hr⟩ := h
  exact prec_any A c T t Any z w hr hc hF (fun _ _ _ _ => trivial) hm fun w1 g _ => hp g w1
theorem pc_N : PrecOf tN 1 := prec_of _ _ _ fit_N root_N prec_num
theorem pc_V : PrecOf tV 1 := prec_of _ _ _ fit_V root_V prec_var
theorem pc_S : PrecOf tS 1 := prec_of _ _ _ fit_S root_S prec_str
theorem pc_Self : PrecOf tSelf 1 := prec_of _ _ _ fit_Self root_Self prec_self
theorem pc_Par : PrecOf tPar 1 := prec_of _ _ _ fit_Par root_Par prec_parens
theorem pc_App : PrecOf tApp 2 := prec_of _ _ _ fit_App root_App prec_apply
theorem pc_Idx : PrecOf tIdx 2 := prec_of _ _ _ fit_Idx root_Idx prec_index
theorem pc_Una : PrecOf tUna 4 := prec_of _ _ _ fit_Una root_Una prec_unary
theorem pc_If : PrecOf tIf 16 := prec_of _ _ _ fit_If root_If prec_if
theorem pc_Err : PrecOf tErr 16 := prec_of _ _ _ fit_Err root_Err prec_error
theorem pc_Imp : PrecOf tImp 16 := prec_of _ _ _ fit_Imp root_Imp prec_import
theorem pc_Loc : PrecOf tLoc 16 := prec_of _ _ _ fit_Loc root_Loc prec_local
theorem pc_Bin (i : Fin 19) : PrecOf (tBin i) ((bopTab[(bx i).val]! : Nat) : Int) := by
  intro w v h
  obtain ⟨A, c, rfl, hc, hr⟩ := h
  exact prec_any A c (tBin i) _ (BinQ ((bx i).val : Int)) _ w hr hc (fit_Bin i) (fun w n g ⟨cs, h1, h2⟩ => ⟨cs, h1.drewN n, h2⟩) (root_Bin i) fun w1 g ⟨cs, h1, h2⟩ => prec_bin g (bx i) w1 ((h1.cell 12).trans h2)

def GotTo (n : Nat) (T : List Nd) (w : World) (e : Ending) (w' : World) : Prop := ∃ (A : Option Addr) (c : Nat), e = .returned (.slice A n c) ∧ Nodes w' (.slice A n c) T ∧ Below w.heap.size w w'
theorem trees_1 {w : World} {v : Value} {T : List Nd} (h : Nodes w v T) : Trees (w.alloc (.cells #[v] 24)) (.slice (some ⟨w.heap.size, 0, none⟩) 1 1) [T] := by
  refine ⟨_, 1, [v], rfl, Nat.le_refl _, ⟨rfl, fun _ => ⟨_, rfl, by simp, fun j u hu => news_at w _ [v] _ rfl j u hu⟩⟩, fun k T' hk => ?_⟩
  match k, hk with
  | 0, hk => cases hk; exact ⟨v, rfl, h.below ((Below.refl _ _).alloc (Nat.le_refl _) _)⟩
  | k + 1, hk => simp at hk
theorem trees_2 {w : World} {v v' : Value} {T T' : List Nd} (h : Nodes w v T) (h' : Nodes w v' T') : Trees (w.alloc (.cells #[v, v'] 24)) (.slice (some ⟨w.heap.size, 0, none⟩) 2 2) [T, T'] := by
  refine ⟨_, 2, [v, v'], rfl, Nat.le_refl _, ⟨rfl, fun _ => ⟨_, rfl, by simp, fun j u hu => news_at w _ [v, v'] _ rfl j u hu⟩⟩, fun k T'' hk => ?_⟩
  match k, hk with
  | 0, hk => cases hk; exact ⟨v, rfl, h.below ((Below.refl _ _).alloc (Nat.le_refl _) _)⟩
  | 1, hk => cases hk; exact ⟨v', rfl, h'.below ((Below.refl _ _).alloc (Nat.le_refl _) _)⟩
  | k + 2, hk => simp at hk
theorem got_of {n : Nd} {L : List (List Nd)} {T : List Nd} {m : Nat} {v : Value} {w0 w : World} (hT : mk n L = T) (hm : T.length = m) (hl : L.length ≤ 100) (hf : L.flatten.length ≤ 100) (h : Trees w v L) (hb : Below w0.heap.size w0 w) :
    Calls Try.prog 4 #[aggN n, v] w (GotTo m T w0) :=
  (made_any n v L w h hl hf).mono fun e w' ⟨v', he, hn, hb'⟩ => by
    rw [hT] at hn
    obtain ⟨A, c, rfl, hc, hr⟩ := id hn
    subst hm
    exact ⟨A, c, he, hn, hb.trans (hb'.mono hb.size)⟩
theorem got_0 (k op : Int) (s : ByteArray) {T : List Nd} {m : Nat} (hT : mk ⟨k, op, s, 0, 0⟩ [] = T) (hm : T.length = m) (w : World) :
    Calls Try.prog 4 #[.agg #[.int .i64 k, .int .i64 op, .string s, .int .i64 0, .int .i64 0], .slice none 0 0] w (GotTo m T w) :=
  got_of (n := ⟨k, op, s, 0, 0⟩) hT hm (by decide) (by decide) (Trees.none_ w) (Below.refl _ _)
theorem got_1 (k op : Int) (s : ByteArray) {T1 T : List Nd} {m : Nat} {v : Value} (hT : mk ⟨k, op, s, 0, 0⟩ [T1] = T) (hm : T.length = m) (h1 : T1.length ≤ 100) (w : World) (h : Nodes w v T1) :
    Calls Try.prog 4 #[.agg #[.int .i64 k, .int .i64 op, .string s, .int .i64 0, .int .i64 0], .slice (some ⟨w.heap.size, 0, none⟩) 1 1] (w.alloc (.cells #[v] 24)) (GotTo m T w) :=
  got_of (n := ⟨k, op, s, 0, 0⟩) hT hm (by simp) (by simpa using h1) (trees_1 h) ((Below.refl _ _).alloc (Nat.le_refl _) _)
theorem got_2 (k op : Int) (s : ByteArray) {T1 T2 T : List Nd} {m : Nat} {v v' : Value} (hT : mk ⟨k, op, s, 0, 0⟩ [T1, T2] = T) (hm : T.length = m) (h1 : T1.length + T2.length ≤ 100) (w : World) (h : Nodes w v T1) (h' : Nodes w v' T2) :
    Calls Try.prog 4 #[.agg #[.int .i64 k, .int .i64 op, .string s, .int .i64 0, .int .i64 0], .slice (some ⟨w.heap.size, 0, none⟩) 2 2] (w.alloc (.cells #[v, v'] 24)) (GotTo m T w) :=
  got_of (n := ⟨k, op, s, 0, 0⟩) hT hm (by simp) (by simpa using h1) (trees_2 h h') ((Below.refl _ _).alloc (Nat.le_refl _) _)
theorem tB_mk : mk ⟨32, 0, bA, 0, 0⟩ [tN] = [⟨32, 0, bA, 0, 2⟩, ndN] := rfl
theorem tPar_mk : mk ⟨30, 0, bNo, 0, 0⟩ [tN] = tPar := rfl
theorem tLoc_mk : mk ⟨20, 0, bNo, 0, 0⟩ [[⟨32, 0, bA, 0, 2⟩, ndN], tN] = tLoc := rfl
theorem tBin_mk (i : Fin 19) : mk ⟨23, (i.val : Int) + 1, bNo, 0, 0⟩ [tN, tN] = tBin i := rfl
end Go.Proofs.Ytionkdlcagikaaa
