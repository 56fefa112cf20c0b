/-
  The trees. Conditions: none.
-/
import Derived.Test.YtionkdlcagikaaaPrcS
namespace Go.Proofs.Ytionkdlcagikaaa
open Go.RowKit
set_option linter.unusedVariables false
set_option linter.unusedSimpArgs false

def fitK (T : List Nd) (e : Nat) : Nat → List Nd → Bool
  | _, [] => true
  | k, m :: R => (decide (e ≤ k) || (decide (1 ≤ m.size) && decide (k + m.size.toNat ≤ e))) && fitK T e (k + 1) R
def fitA (l : Nat) : Nat → List Nd → Bool
  | _, [] => true
  | a, n :: R => decide (1 ≤ n.size) && decide (a + n.size.toNat ≤ l) && fitK [] (a + n.size.toNat) (a + 1) R && fitA l (a + 1) R
def fitB (T : List Nd) : Bool := decide (T.length ≤ 100) && (match T with | [] => false | r :: _ => decide (r.size = (T.length : Int))) && fitA T.length 0 T
theorem fitK_at {S : List Nd} {e : Nat} : ∀ (R : List Nd) (k0 : Nat), fitK S e k0 R = true → ∀ (j : Nat) (m : Nd), R[j]? = some m → k0 + j < e → 1 ≤ m.size ∧ k0 + j + m.size.toNat ≤ e
  | [], k0, _, j, m, hm, _ => by simp at hm
  | r :: R, k0, h, j, m, hm, hj => by
    simp only [fitK, Bool.and_eq_true, Bool.or_eq_true, decide_eq_true_eq] at h
    cases j with
    | zero =>
      simp only [List.getElem?_cons_zero, Option.some.injEq] at hm
      subst hm
      rcases h.1 with h1 | h1
      · omega
      · exact ⟨h1.1, by omega⟩
    | succ j =>
      have := fitK_at R (k0 + 1) h.2 j m (by simpa using hm) (by omega)
      exact ⟨this.1, by omega⟩
theorem fitA_at {l : Nat} : ∀ (R : List Nd) (a0 : Nat), fitA l a0 R = true → ∀ (j : Nat) (n : Nd), R[j]? = some n → 1 ≤ n.size ∧ a0 + j + n.size.toNat ≤ l ∧ ∀ (k : Nat) (m : Nd), j < k → R[k]? = some m → a0 + k < a0 + j + n.size.toNat → 1 ≤ m.size ∧ a0 + k + m.size.toNat ≤ a0 + j + n.size.toNat
  | [], a0, _, j, n, hn => by simp at hn
  | r :: R, a0, h, j, n, hn => by
    simp only [fitA, Bool.and_eq_true, decide_eq_true_eq] at h
    obtain ⟨⟨⟨h1, h2⟩, h3⟩, h4⟩ := h
    cases j with
    | zero =>
      simp only [List.getElem?_cons_zero, Option.some.injEq] at hn
      subst hn
      refine ⟨h1, by omega, fun k m hk hm hlt => ?_⟩
      obtain ⟨k, rfl⟩ : ∃ k', k = k' + 1 := ⟨k - 1, by omega⟩
      have := fitK_at R (a0 + 1) h3 k m (by simpa using hm) (by omega)
      exact ⟨this.1, by omega⟩
    | succ j =>
      obtain ⟨g1, g2, g3⟩ := fitA_at R (a0 + 1) h4 j n (by simpa using hn)
      refine ⟨g1, by omega, fun k m hk hm hlt => ?_⟩
      obtain ⟨k, rfl⟩ : ∃ k', k = k' + 1 := ⟨k - 1, by omega⟩
      have := g3 k m (by omega) (by simpa using hm) (by omega)
      exact ⟨this.1, by omega⟩
theorem fit_of {T : List Nd} (h : fitB T = true) : Fit T := by
  simp only [fitB, Bool.and_eq_true, decide_eq_true_eq] at h
  obtain ⟨⟨h1, h2⟩, h3⟩ := h
  refine ⟨h1, ?_, fun a n hn => ?_⟩
  · cases T with
    | nil => simp at h2
    | cons r R => exact ⟨r, rfl, by simpa using h2⟩
  · obtain ⟨g1, g2, g3⟩ := fitA_at T 0 h3 a n hn
    refine ⟨n.size.toNat, by omega, by omega, by omega, fun k m hk hlt hm => ?_⟩
    have := g3 k m hk hm (by omega)
    exact ⟨m.size.toNat, by omega, by omega, by omega⟩
theorem row_one {w : World} {gp p : Nat} {v : Value} (h : KidsRow w gp v [p]) : ∃ (ad : Addr) (c : Nat), v = .slice (some ad) 1 c ∧ 1 ≤ c ∧ ad.block < w.heap.size ∧ ad.block ≠ gp ∧ w.cell? ad = some (.int .i64 (p : Int)) := by
  obtain ⟨⟨A, c, rfl, hc, hr⟩, hn⟩ := h
  obtain ⟨ad, rfl, hb, hcell⟩ := hr.2 (by simp)
  exact ⟨ad, c, rfl, hc, hb, hn ad _ _ rfl, hcell 0 _ rfl⟩
theorem row_two {w : World} {gp p q : Nat} {v : Value} (h : KidsRow w gp v [p, q]) : ∃ (ad : Addr) (c : Nat), v = .slice (some ad) 2 c ∧ 2 ≤ c ∧ ad.block < w.heap.size ∧ ad.block ≠ gp ∧ w.cell? ad = some (.int .i64 (p : Int)) ∧ w.cell? ⟨ad.block, ad.off + 1, none⟩ = some (.int .i64 (q : Int)) := by
  obtain ⟨⟨A, c, rfl, hc, hr⟩, hn⟩ := h
  obtain ⟨ad, rfl, hb, hcell⟩ := hr.2 (by simp)
  exact ⟨ad, c, rfl, hc, hb, hn ad _ _ rfl, hcell 0 _ rfl, hcell 1 _ rfl⟩
/-- The plain leaves. -/
def Any : World → Nat → Prop := fun _ _ => True
theorem any_stays : Stays Any := fun _ _ _ _ _ _ _ _ => trivial
theorem root_leaf (T : List Nd) (n : Nd) (t : TypeId) (hF : Fit T) (hn : T[0]? = some n) (hk : kidsOf T 0 = []) (hlf : ∀ gb, LeafOf gb n t) : RootOf T t Any :=
  fun base gb gp c A w h => node_leaf base gb gp c A T 0 n t w h hF hn hk (hlf gb)
theorem root_both (T : List Nd) (n : Nd) (K : List Nat) (t : TypeId) (Q : World → Nat → Prop) (hQ : Stays Q) (hF : Fit T) (hn : T[0]? = some n) (hk : kidsOf T 0 = K) (hlf : ∀ gb, LeafNil gb n) (hbo : ∀ base gb gp c A, BothOf base gb gp c A T n K t Q) : RootOf T t Q :=
  fun base gb gp c A w h => node_any base gb gp c A T 0 t Q hQ w h (List.getElem?_eq_some_iff.1 hn).1 fun w1 h1 => made_both base gb gp c A T 0 n K t Q w1 h1 hF hn hk (hlf gb) (hbo base gb gp c A)
theorem root_sugar (T : List Nd) (n : Nd) (K : List Nat) (t : TypeId) (Q : World → Nat → Prop) (hQ : Stays Q) (hF : Fit T) (hn : T[0]? = some n) (hk : kidsOf T 0 = K) (hlf : ∀ gb, LeafNil gb n) (hbn : ∀ gb, BothNil gb n) (hsu : ∀ base gb gp c A, SugarOf base gb gp c A T n K t Q) : RootOf T t Q :=
  fun base gb gp c A w h => node_any base gb gp c A T 0 t Q hQ w h (List.getElem?_eq_some_iff.1 hn).1 fun w1 h1 => made_sugar base gb gp c A T 0 n K t Q w1 h1 hF hn hk (hlf gb) (hbn gb) (hsu base gb gp c A)
theorem node_at (base gb gp c : Nat) (A : Option Addr) (T : List Nd) (k : Nat) (n : Nd) (t : TypeId) (hF : Fit T) (hn : T[k]? = some n) (hk : kidsOf T k = []) (hlf : LeafOf gb n t) : NodeOf base gb gp c A T k t :=
  fun w1 h1 => node_leaf base gb gp c A T k n t w1 h1 hF hn hk hlf

def bOne : ByteArray := ⟨#[49]⟩
def bStd : ByteArray := ⟨#[115, 116, 100]⟩
def bA : ByteArray := ⟨#[97]⟩
def bNo : ByteArray := ⟨#[]⟩
def ndN : Nd := ⟨4, 0, bOne, 0, 1⟩
def ndV : Nd := ⟨8, 0, bStd, 0, 1⟩
def ndS : Nd := ⟨5, 0, bA, 0, 1⟩
theorem lf_N (gb : Nat) : LeafOf gb ndN 90 := fun w _ => leaf_num gb 0 bOne 0 1 w
theorem lf_V (gb : Nat) : LeafOf gb ndV 99 := fun w _ => leaf_var gb 0 bStd 0 1 w
theorem lf_S (gb : Nat) : LeafOf gb ndS 93 := fun w h => leaf_str gb 0 bA 0 1 w h
def tN : List Nd := [ndN]
def tV : List Nd := [ndV]
def tS : List Nd := [ndS]
def tSelf : List Nd := [⟨6, 0, bNo, 0, 1⟩]
def tPar : List Nd := [⟨30, 0, bNo, 0, 2⟩, ndN]
def tApp : List Nd := [⟨18, 0, bNo, 0, 2⟩, ndV]
def tIdx : List Nd := [⟨15, 0, bNo, 0, 3⟩, ndV, ndS]
def tUna : List Nd := [⟨22, 4, bNo, 0, 2⟩, ndN]
def tIf : List Nd := [⟨21, 0, bNo, 0, 3⟩, ndN, ndN]
def tErr : List Nd := [⟨24, 0, bNo, 0, 2⟩, ndN]
def tImp : List Nd := [⟨26, 0, bA, 0, 1⟩]
def tLoc : List Nd := [⟨20, 0, bNo, 0, 4⟩, ⟨32, 0, bA, 0, 2⟩, ndN, ndN]
def tBin (i : Fin 19) : List Nd := [⟨23, (i.val : Int) + 1, bNo, 0, 3⟩, ndN, ndN]
theorem fit_N : Fit tN := fit_of rfl
theorem fit_V : Fit tV := fit_of rfl
theorem fit_S : Fit tS := fit_of rfl
theorem fit_Self : Fit tSelf := fit_of rfl
theorem fit_Par : Fit tPar := fit_of rfl
theorem fit_App : Fit tApp := fit_of rfl
theorem fit_Idx : Fit tIdx := fit_of rfl
theorem fit_Una : Fit tUna := fit_of rfl
theorem fit_If : Fit tIf := fit_of rfl
theorem fit_Err : Fit tErr := fit_of rfl
theorem fit_Imp : Fit tImp := fit_of rfl
theorem fit_Loc : Fit tLoc := fit_of rfl
theorem fit_Bin (i : Fin 19) : Fit (tBin i) := fit_of rfl
theorem root_N : RootOf tN 90 Any := root_leaf tN ndN _ fit_N rfl rfl lf_N
theorem root_V : RootOf tV 99 Any := root_leaf tV ndV _ fit_V rfl rfl lf_V
theorem root_S : RootOf tS 93 Any := root_leaf tS ndS _ fit_S rfl rfl lf_S
theorem root_Self : RootOf tSelf 95 Any := root_leaf tSelf _ _ fit_Self rfl rfl fun gb w _ => leaf_self gb 0 bNo 0 1 w
theorem root_Imp : RootOf tImp 75 Any := root_leaf tImp _ _ fit_Imp rfl rfl fun gb w h => leaf_imp gb 0 bA 0 1 w h
theorem root_Par : RootOf tPar 156 Any := root_sugar tPar _ [1] _ _ any_stays fit_Par rfl rfl (fun gb w => leaf_30 gb 0 bNo 0 2 w) (fun gb w v => both_30 gb 0 bNo 0 2 v w) fun base gb gp c A w v h hr => by
  obtain ⟨ad, c7, rfl, hc, hl, hn, hp⟩ := row_one hr
  exact sugar_par base gb gp c A tPar 0 bNo 0 2 1 _ ad c7 w h hp (node_at base gb gp c A tPar 1 ndN _ fit_Par rfl rfl (lf_N gb))
theorem root_Una : RootOf tUna 52 Any := root_both tUna _ [1] _ _ any_stays fit_Una rfl rfl (fun gb w => leaf_22 gb 4 bNo 0 2 w) fun base gb gp c A w v h hr => by
  obtain ⟨ad, c7, rfl, hc, hl, hn, hp⟩ := row_one hr
  exact both_una base gb gp c A tUna bNo 0 2 1 _ ad c7 w h hp (node_at base gb gp c A tUna 1 ndN _ fit_Una rfl rfl (lf_N gb))
theorem root_Err : RootOf tErr 74 Any := root_both tErr _ [1] _ _ any_stays fit_Err rfl rfl (fun gb w => leaf_24 gb 0 bNo 0 2 w) fun base gb gp c A w v h hr => by
  obtain ⟨ad, c7, rfl, hc, hl, hn, hp⟩ := row_one hr
  exact both_err base gb gp c A tErr 0 bNo 0 2 1 _ ad c7 w h hp (node_at base gb gp c A tErr 1 ndN _ fit_Err rfl rfl (lf_N gb))
theorem root_App : RootOf tApp 47 Any := root_both tApp _ [1] _ _ any_stays fit_App rfl rfl (fun gb w => leaf_18 gb 0 bNo 0 2 w) fun base gb gp c A w v h hr => by
  obtain ⟨ad, c7, rfl, hc, hl, hn, hp⟩ := row_one hr
  exact both_app base gb gp c A tApp 0 bNo 0 2 1 _ ad c7 w h (by decide) hl hn hc hp (node_at base gb gp c A tApp 1 ndV _ fit_App rfl rfl (lf_V gb))
theorem root_Idx : RootOf tIdx 49 Any := root_both tIdx _ [1, 2] _ _ any_stays fit_Idx rfl rfl (fun gb w => leaf_15 gb 0 bNo 0 3 w) fun base gb gp c A w v h hr => by
  obtain ⟨ad, c7, rfl, hc, hl, hn, hp, hp'⟩ := row_two hr
  exact both_idx base gb gp c A tIdx 0 bNo 0 3 1 2 _ _ ad c7 w h hl hn hp hp' (node_at base gb gp c A tIdx 1 ndV _ fit_Idx rfl rfl (lf_V gb)) (node_at base gb gp c A tIdx 2 ndS _ fit_Idx rfl rfl (lf_S gb))
theorem root_If : RootOf tIf 78 Any := root_both tIf _ [1, 2] _ _ any_stays fit_If rfl rfl (fun gb w => leaf_21 gb 0 bNo 0 3 w) fun base gb gp c A w v h hr => by
  obtain ⟨ad, c7, rfl, hc, hl, hn, hp, hp'⟩ := row_two hr
  exact both_if base gb gp c A tIf 0 bNo 0 3 1 2 _ _ ad c7 w h hl hn hp hp' (node_at base gb gp c A tIf 1 ndN _ fit_If rfl rfl (lf_N gb)) (node_at base gb gp c A tIf 2 ndN _ fit_If rfl rfl (lf_N gb))
theorem root_Loc : RootOf tLoc 72 Any := root_both tLoc _ [1, 3] _ _ any_stays fit_Loc rfl rfl (fun gb w => leaf_20 gb 0 bNo 0 4 w) fun base gb gp c A w v h hr => by
  obtain ⟨ad, c7, rfl, hc, hl, hn, hp, hp'⟩ := row_two hr
  exact both_loc base gb gp c A tLoc 0 bNo 0 4 1 2 3 ⟨32, 0, bA, 0, 2⟩ _ _ ad c7 w h (by decide) hl hn hc hp hp' fit_Loc rfl rfl rfl rfl (node_at base gb gp c A tLoc 2 ndN _ fit_Loc rfl rfl (lf_N gb)) (node_at base gb gp c A tLoc 3 ndN _ fit_Loc rfl rfl (lf_N gb))
theorem root_Bin (i : Fin 19) : RootOf (tBin i) 53 (BinQ ((bx i).val : Int)) := root_both (tBin i) _ [1, 2] _ _ (binQ_stays _) (fit_Bin i) rfl rfl (fun gb w => leaf_23 gb _ bNo 0 3 w) fun base gb gp c A w v h hr => by
  obtain ⟨ad, c7, rfl, hc, hl, hn, hp, hp'⟩ := row_two hr
  exact both_bin base gb gp c A (tBin i) i bNo 0 3 1 2 _ _ ad c7 w h hl hn hp hp' (node_at base gb gp c A (tBin i) 1 ndN _ (fit_Bin i) rfl rfl (lf_N gb)) (node_at base gb gp c A (tBin i) 2 ndN _ (fit_Bin i) rfl rfl (lf_N gb))
end Go.Proofs.Ytionkdlcagikaaa
