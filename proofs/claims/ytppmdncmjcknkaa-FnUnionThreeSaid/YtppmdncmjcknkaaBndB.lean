/-
  What the law takes for a call: apart, calls; placeOf. Conditions: none.
-/
import Derived.Test.YtppmdncmjcknkaaBndA
namespace Go.Proofs.Ytppmdncmjcknkaa
open Go.RowKit
set_option linter.unusedVariables false
set_option linter.unusedSimpArgs false

theorem below_drewN {B : Nat} {a w : World} (h : Below B a w) (n : Nat) : Below B a (w.drewN n) := ⟨h.os, h.tape, h.output, h.size, h.block⟩
def Apart (P : List ByteArray) : Prop := ∀ (i j : Nat) (s : ByteArray), i < j → P[i]? = some s → P[j]? = some s → False
def Names (P : List ByteArray) : Prop := P.length ≤ 100 ∧ (∀ (k : Nat) (s : ByteArray), P[k]? = some s → s.size ≤ 100) ∧ Apart P

set_option maxRecDepth 100000 in
set_option maxHeartbeats 1600000 in
theorem apart_any (A : Option Addr) (c : Nat) (P : List ByteArray) (w : World) (h : Reads w w.heap.size 1 A P.length (strs P)) :
    Calls Try.prog 12 #[.slice A P.length c] w (Tells w fun b => b = true → Names P) := by
  by_cases hm : P.length ≤ 100
  · have HR := Lib.hid h
    clear h
    go_enter Try.func12, Try.ntmps12
    go_wp2
    go_loopw [3] (fun i wr => ∃ k : Nat, k ≤ P.length ∧ i = .int .i64 k ∧ (∀ (j : Nat) (s : ByteArray), j < k → P[j]? = some s → s.size ≤ 100) ∧ (∀ (i j : Nat) (s : ByteArray), i < j → j < k → P[i]? = some s → P[j]? = some s → False) ∧ Below w.heap.size w wr) (fun i _ => P.length - (intOf i).toNat)
    case atStart => exact ⟨0, by omega, rfl, fun j s h => absurd h (by omega), fun i j s h1 h2 => absurd h2 (by omega), Below.refl _ _⟩
    case round =>
      obtain ⟨k, hk, rfl, hsz, hap, hbw⟩ := hrel
      obtain ⟨wo, rfl⟩ : ∃ wo : World, wo = wr := ⟨_, rfl⟩
      have HS := Lib.hid hsz
      have HP := Lib.hid hap
      clear hsz hap
      by_cases hlt : k < P.length
      · obtain ⟨ad, s, rfl, hb, hs, hc0⟩ := HR.out.line hlt
        have hc := (hbw.cell (p := ad.add k) (by rw [block_of_add]; exact hb)).trans hc0
        have Hs := Lib.hid hs
        clear hs hc0
        by_cases h100 : s.size ≤ 100
        · have hd : decide (100 < s.size) = false := decide_eq_false (by omega)
          have hhs := hbw.size
          go_wp2_with fail
          go_at_call 18
          refine (ident_some s _ h100).mono ?_
          rintro e' w1 ⟨b, rfl, hb1⟩
          have HB := Lib.hid (hbw.trans (hb1.mono hhs))
          have hc1 := (HB.out.cell (p := ad.add k) (by rw [block_of_add]; exact hb)).trans ((hbw.cell (p := ad.add k) (by rw [block_of_add]; exact hb)).symm.trans hc)
          clear hb1 hc hbw
          cases b
          · go_wp2
            go_ret
            exact ⟨_, rfl, fun h => by simp at h, HB.out⟩
          go_wp2
          go_loopw [4] (fun i wr => ∃ m : Nat, m ≤ k ∧ i = .int .i64 m ∧ (∀ (j : Nat) (t : ByteArray), j < m → P[j]? = some t → t ≠ s) ∧ ∃ n, wr = w1.drewN n) (fun i _ => k - (intOf i).toNat)
          case atStart => exact ⟨0, by omega, rfl, fun j t h => absurd h (by omega), 0, rfl⟩
          case round =>
            obtain ⟨m, hm2, rfl, hne, n, rfl⟩ := hrel
            have HN := Lib.hid hne
            clear hne
            have z0 : (0 : Int) ≤ (m : Int) := by omega
            have z2 : (0 : Int) ≤ (k : Int) := by omega
            have z3 : (k : Int) < (P.length : Int) := by omega
            by_cases hml : m < k
            · obtain ⟨ad', t, had, hb', ht, hc2⟩ := HR.out.line (k := m) (by omega)
              injection had with had
              subst had
              have hc3 := (HB.out.cell (p := ad.add m) (by rw [block_of_add]; exact hb)).trans hc2
              have Ht := Lib.hid ht
              have z1 : (m : Int) < (P.length : Int) := by omega
              clear ht hc2
              cases heq : (t.toList == s.toList)
              · go_wp2
                go_quiet (fail)
                go_wp2
                go_roundw
                case rel =>
                  refine ⟨m + 1, by omega, by go_num, fun j t' hj ht' => ?_, _, rfl⟩
                  by_cases hjm : j = m
                  · subst hjm
                    rw [Ht.out] at ht'
                    injection ht' with ht'
                    subst ht'
                    intro e
                    subst e
                    simp at heq
                  · exact HN.out j t' (by omega) ht'
                case measure => simp [intOf]; omega
              · go_wp2
                go_quiet (fail)
                go_wp2
                go_ret
                exact ⟨_, rfl, fun h => by simp at h, below_drewN (below_drewN HB.out _) _⟩
            · obtain rfl : m = k := by omega
              clear z0 z2 z3
              go_wp2
              go_roundw
              case rel =>
                refine ⟨m + 1, by omega, by go_num, fun j t hj ht => ?_, fun i j t hij hj hi hjt => ?_, (below_drewN HB.out _)⟩
                · by_cases hjm : j = m
                  · subst hjm
                    rw [Hs.out] at ht
                    injection ht with ht
                    subst ht
                    exact h100
                  · exact HS.out j t (by omega) ht
                · by_cases hjm : j = m
                  · subst hjm
                    rw [Hs.out] at hjt
                    injection hjt with hjt
                    subst hjt
                    exact HN.out i s (by omega) hi rfl
                  · exact HP.out i j t hij (by omega) hi hjt
              case measure => simp [intOf]; omega
        · have hd : decide (100 < s.size) = true := decide_eq_true (by omega)
          go_wp2
          go_ret
          exact ⟨_, rfl, fun h => by simp at h, hbw⟩
      · have HX : Hid (Names P) := ⟨hm, fun j s h => HS.out j s (by have := (List.getElem?_eq_some_iff.1 h).1; omega) h, fun i j s hij h1 h2 => HP.out i j s hij (by have := (List.getElem?_eq_some_iff.1 h2).1; omega) h1 h2⟩
        clear HS HP
        go_wp2
        go_ret
        exact ⟨_, rfl, fun _ => HX.out, hbw⟩
  · have hd : decide ((100 : Int) < (P.length : Nat)) = true := decide_eq_true (by omega)
    go_enter Try.func12, Try.ntmps12
    go_wp2
    go_ret
    exact ⟨_, rfl, fun h => by simp at h, Below.refl _ _⟩

def CallOk (P : List ByteArray) (pos : Int) (N : List ByteArray) : Prop := Names P ∧ Names N ∧ 0 ≤ pos ∧ pos ≤ 200
theorem calls_any (A A' : Option Addr) (c c' : Nat) (P N : List ByteArray) (pos : Int) (w : World) (h : Reads w w.heap.size 1 A P.length (strs P)) (h' : Reads w w.heap.size 1 A' N.length (strs N)) :
    Calls Try.prog 6 #[.slice A P.length c, .int .i64 pos, .slice A' N.length c'] w (Tells w fun b => b = true → CallOk P pos N) := by
  have HR := Lib.hid h
  have HR' := Lib.hid h'
  clear h h'
  go_enter Try.func6, Try.ntmps6
  go_wp2_with fail
  go_at_call 12
  refine (apart_any A c P w HR.out).mono ?_
  rintro e' w1 ⟨b, rfl, h1, hb1⟩
  have HB1 := Lib.hid hb1
  have hs1 := hb1.size
  have H1 := Lib.hid h1
  clear hb1 h1
  cases b
  · go_wp2
    go_ret
    exact ⟨_, rfl, fun h => by simp at h, HB1.out⟩
  have H1' := Lib.hid (H1.out rfl)
  clear H1
  go_wp2_with fail
  go_at_call 12
  refine (apart_any A' c' N w1 ((HR'.out.below HB1.out).more hs1)).mono ?_
  rintro e' w2 ⟨b, rfl, h2, hb2⟩
  have HB2 := Lib.hid (HB1.out.trans (hb2.mono hs1))
  have H2 := Lib.hid h2
  clear hb2 h2
  cases b
  · go_wp2
    go_ret
    exact ⟨_, rfl, fun h => by simp at h, HB2.out⟩
  have H2' := Lib.hid (H2.out rfl)
  clear H2
  by_cases hp0 : 0 ≤ pos
  · have d0 : decide (0 ≤ pos) = true := decide_eq_true hp0
    by_cases hp2 : pos ≤ 200
    · have d2 : decide (pos ≤ 200) = true := decide_eq_true hp2
      go_wp2
      go_ret
      exact ⟨_, rfl, fun _ => ⟨H1'.out, H2'.out, hp0, hp2⟩, HB2.out⟩
    · have d2 : decide (pos ≤ 200) = false := decide_eq_false hp2
      go_wp2
      go_ret
      exact ⟨_, rfl, fun h => by simp at h, HB2.out⟩
  · have d0 : decide (0 ≤ pos) = false := decide_eq_false hp0
    go_wp2
    go_ret
    exact ⟨_, rfl, fun h => by simp at h, HB2.out⟩

/-! ### the place of a name -/
def place : List ByteArray → ByteArray → Option Nat
  | [], _ => none
  | p :: P, s => if p.toList == s.toList then some 0 else (place P s).map (· + 1)
theorem list_eq {a b : ByteArray} (h : (a.toList == b.toList) = true) : a = b := by
  have : a.toList = b.toList := by simpa using h
  rw [Lib.toList_data, Lib.toList_data] at this
  obtain ⟨⟨l⟩⟩ := a
  obtain ⟨⟨m⟩⟩ := b
  have e : l = m := this
  rw [e]
theorem place_some : ∀ {P : List ByteArray} {s : ByteArray} {k : Nat}, place P s = some k → P[k]? = some s
  | p :: P, s, k, h => by
    unfold place at h
    split at h
    · rename_i he
      injection h with h
      subst h
      rw [list_eq he]; rfl
    · cases hp : place P s with
      | none => rw [hp] at h; simp at h
      | some j =>
        rw [hp] at h
        simp at h
        subst h
        rw [List.getElem?_cons_succ]
        exact place_some hp
theorem place_none : ∀ {P : List ByteArray} {s : ByteArray}, place P s = none → ∀ (k : Nat), P[k]? ≠ some s
  | [], s, _, k => by simp
  | p :: P, s, h, k => by
    unfold place at h
    split at h
    · simp at h
    · rename_i he
      cases hp : place P s with
      | some j => rw [hp] at h; simp at h
      | none =>
        cases k with
        | zero =>
          intro hk
          simp at hk
          subst hk
          simp at he
        | succ k => rw [List.getElem?_cons_succ]; exact place_none hp k
theorem place_at {P : List ByteArray} {s : ByteArray} {k : Nat} (h : P[k]? = some s) (hn : ∀ j, j < k → P[j]? ≠ some s) : place P s = some k := by
  cases hp : place P s with
  | none => exact absurd h (place_none hp k)
  | some j =>
    have h1 := place_some hp
    by_cases hjk : j = k
    · rw [hjk]
    · exfalso
      rcases Nat.lt_or_gt_of_ne hjk with hlt | hlt
      · exact hn j hlt h1
      · -- j is the first place
        have : ∀ {P : List ByteArray} {s : ByteArray} {j k : Nat}, place P s = some j → k < j → P[k]? ≠ some s := by
          intro P
          induction P with
          | nil => intro s j k h; simp [place] at h
          | cons p P ih =>
            intro s j k h hk
            unfold place at h
            split at h
            · injection h with h; omega
            · rename_i he
              cases hq : place P s with
              | none => rw [hq] at h; simp at h
              | some i =>
                rw [hq] at h
                simp at h
                subst h
                cases k with
                | zero => intro hk'; simp at hk'; subst hk'; simp at he
                | succ k => rw [List.getElem?_cons_succ]; exact ih hq (by omega)
        exact this hp hlt h
def placeI (P : List ByteArray) (s : ByteArray) : Int := match place P s with | some k => (k : Int) | none => -1

theorem place_any (A : Option Addr) (c : Nat) (P : List ByteArray) (s : ByteArray) (w : World) (hm : P.length ≤ 100) (h : Reads w w.heap.size 1 A P.length (strs P)) :
    Calls Try.prog 13 #[.slice A P.length c, .string s] w fun e w' => e = .returned (.int .i64 (placeI P s)) ∧ w = w' := by
  have HR := Lib.hid h
  clear h
  go_enter Try.func13, Try.ntmps13
  go_wp2
  go_loop [5] (fun i => ∃ k : Nat, k ≤ P.length ∧ i = .int .i64 k ∧ (∀ j, j < k → P[j]? ≠ some s)) (fun i => P.length - (intOf i).toNat)
  case atStart => exact ⟨0, by omega, rfl, fun j h => absurd h (by omega)⟩
  case round =>
    obtain ⟨k, hk, rfl, hn⟩ := hrel
    have HN := Lib.hid hn
    clear hn
    by_cases hlt : k < P.length
    · obtain ⟨ad, t, rfl, hb, ht, hc⟩ := HR.out.line hlt
      have Ht := Lib.hid ht
      clear ht
      cases heq : (t.toList == s.toList)
      · go_wp2
        go_round
        case rel =>
          refine ⟨k + 1, by omega, by go_num, fun j hj => ?_⟩
          by_cases hjk : j = k
          · subst hjk
            rw [Ht.out]
            intro e
            injection e with e
            subst e
            simp at heq
          · exact HN.out j (by omega)
        case measure => simp [intOf]; omega
      · have hp := place_at ((list_eq heq) ▸ Ht.out) HN.out
        have HP : Hid (placeI P s = (k : Int)) := Lib.hid (by unfold placeI; rw [hp])
        clear hp
        go_wp2
        go_ret
        exact ⟨by rw [HP.out]; rfl, rfl⟩
    · have HP : Hid (placeI P s = -1) := by
        show placeI P s = -1
        unfold placeI
        cases hp : place P s with
        | none => rfl
        | some j =>
          have h1 := place_some hp
          exact absurd h1 (HN.out j (by have := (List.getElem?_eq_some_iff.1 h1).1; omega))
      go_wp2
      go_ret
      exact ⟨by rw [HP.out]; rfl, rfl⟩
end Go.Proofs.Ytppmdncmjcknkaa
