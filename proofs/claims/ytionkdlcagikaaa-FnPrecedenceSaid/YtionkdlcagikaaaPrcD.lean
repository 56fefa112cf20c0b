/-
  The builder; the places of a node's kids. Conditions: none.
-/
import Derived.Test.YtionkdlcagikaaaPrcC
namespace Go.Proofs.Ytionkdlcagikaaa
open Go.RowKit
set_option linter.unusedVariables false
set_option linter.unusedSimpArgs false

def intsN (l : List Nat) : List Value := l.map fun n : Nat => Value.int .i64 (n : Int)
theorem intsN_length (l : List Nat) : (intsN l).length = l.length := by simp [intsN]
theorem intsN_at {l : List Nat} {k n : Nat} (h : l[k]? = some n) : (intsN l)[k]? = some (.int .i64 (n : Int)) := by simp [intsN, h]
theorem intsN_snoc (l : List Nat) (n : Nat) : intsN (l ++ [n]) = intsN l ++ [.int .i64 (n : Int)] := by simp [intsN]
def Places (w : World) (v : Value) (l : List Nat) : Prop := ∃ (A : Option Addr) (c : Nat), v = .slice A l.length c ∧ l.length ≤ c ∧ Reads w w.heap.size 1 A l.length (intsN l)
theorem Places.below {w w' : World} {v : Value} {l : List Nat} (h : Places w v l) (hb : Below w.heap.size w w') : Places w' v l := by
  obtain ⟨A, c, e, hc, hr⟩ := h
  exact ⟨A, c, e, hc, (hr.below hb).more hb.size⟩
theorem places_of_own {w : World} {base : Nat} {t : TypeId} {v : Value} {l : List Nat} (h : w.ownsRow base t 1 v l.length (intsN l)) : Places w v l := by
  obtain ⟨A, c, rfl, hc⟩ := own_form h
  exact ⟨A, c, rfl, hc, Reads.of_own h⟩
/-- The builder lies there. -/
def Bld (w : World) (base gb : Nat) (A : Option Addr) (c : Nat) (T : List Nd) : Prop := base ≤ gb ∧ Reads w base 5 A T.length (flatN T) ∧ ∃ gp ps, base ≤ gp ∧
  Blk w gb 45 #[.slice A T.length c, .bool false, .bool false, .slice (some ⟨gp, 0, none⟩) T.length T.length] ∧ Blk w gp 34 ps ∧ ps.size = T.length
theorem Bld.below {w w' : World} {base gb c : Nat} {A : Option Addr} {T : List Nd} (h : Bld w base gb A c T) (hb : Below w.heap.size w w') : Bld w' base gb A c T := by
  obtain ⟨h1, h2, gp, ps, h3, h4, h5, h6⟩ := h
  have h7 := h4.lt
  exact ⟨h1, h2.keep fun p hp => hb.cell (by omega), gp, ps, h3, h4.later hb, h5.later hb, h6⟩
def szAt (T : List Nd) (k : Nat) : Nat := ((T[k]?).map fun n => n.size.toNat).getD 1
/-- The places from one on, up to an end. -/
def kidsF (T : List Nd) : Nat → Nat → Nat → List Nat
  | 0, _, _ => []
  | f + 1, k, e => if k < e then k :: kidsF T f (k + szAt T k) e else []
def kidsOf (T : List Nd) (a : Nat) : List Nat := kidsF T (szAt T a) (a + 1) (a + szAt T a)
theorem kidsF_len (T : List Nd) : ∀ (f k e : Nat), (kidsF T f k e).length ≤ f
  | 0, _, _ => Nat.le_refl _
  | f + 1, k, e => by
    unfold kidsF
    split
    · have := kidsF_len T f (k + szAt T k) e
      simp
      omega
    · simp
theorem kidsF_yes (T : List Nd) (f : Nat) {k e : Nat} (h : k < e) : kidsF T (f + 1) k e = k :: kidsF T f (k + szAt T k) e := by
  show (if k < e then k :: kidsF T f (k + szAt T k) e else []) = _
  rw [if_pos h]
theorem kidsF_no (T : List Nd) (f : Nat) {k e : Nat} (h : ¬ k < e) : kidsF T f k e = [] := by
  cases f with
  | zero => rfl
  | succ f =>
    show (if k < e then k :: kidsF T f (k + szAt T k) e else []) = _
    rw [if_neg h]
theorem info_I : (Try.prog.info? 3).map (fun i => (i.zero, i.size, i.bytes)) = some (some (.int .i64 0), 1, 8) := by kernel_rfl
/-- The row is new. -/
def NewRow (w : World) (v : Value) : Prop := ∀ (ad : Addr) (n c : Nat), v = .slice (some ad) n c → w.heap.size ≤ ad.block
theorem new_of_own {w w' : World} {t : TypeId} {v : Value} {n : Nat} {xs : List Value} (h : w'.ownsRow w.heap.size t 1 v n xs) : NewRow w v := by
  intro ad n' c' he
  rcases h.2 with ⟨rfl, _⟩ | ⟨g, c, cur, rfl, hb, _⟩
  · cases he
  · injection he with he
    injection he with he
    subst he
    exact hb
theorem places_one {w w0 : World} {v : Value} {p : Nat} (h : Places w v [p]) (hn : NewRow w0 v) : ∃ (ad : Addr) (c : Nat), v = .slice (some ad) 1 c ∧ 1 ≤ c ∧ ad.block < w.heap.size ∧ w0.heap.size ≤ ad.block ∧ w.cell? ad = some (.int .i64 (p : Int)) := by
  obtain ⟨A, c, rfl, hc, hr⟩ := h
  obtain ⟨ad, rfl, hb, hcell⟩ := hr.2 (by simp)
  exact ⟨ad, c, rfl, hc, hb, hn ad _ _ rfl, hcell 0 _ rfl⟩
theorem places_two {w w0 : World} {v : Value} {p q : Nat} (h : Places w v [p, q]) (hn : NewRow w0 v) : ∃ (ad : Addr) (c : Nat), v = .slice (some ad) 2 c ∧ 2 ≤ c ∧ ad.block < w.heap.size ∧ w0.heap.size ≤ ad.block ∧ w.cell? ad = some (.int .i64 (p : Int)) ∧ w.cell? ⟨ad.block, ad.off + 1, none⟩ = some (.int .i64 (q : Int)) := by
  obtain ⟨A, c, rfl, hc, hr⟩ := h
  obtain ⟨ad, rfl, hb, hcell⟩ := hr.2 (by simp)
  exact ⟨ad, c, rfl, hc, hb, hn ad _ _ rfl, hcell 0 _ rfl, hcell 1 _ rfl⟩
def PlacesTo (w : World) (l : List Nat) (e : Ending) (w' : World) : Prop := ∃ v, e = .returned v ∧ (Places w' v l ∧ NewRow w v) ∧ Below w.heap.size w w'
set_option maxRecDepth 100000 in
set_option maxHeartbeats 1000000 in
theorem kids_any (base gb c : Nat) (A : Option Addr) (T : List Nd) (a : Nat) (w : World) (h : Bld w base gb A c T) (hF : Fit T) (ha : a < T.length) :
    Calls Try.prog 15 #[.pointer (some ⟨gb, 0, none⟩), .int .i64 a] w (PlacesTo w (kidsOf T a)) := by
  obtain ⟨i3, hi3, hz3, hz3', hz3''⟩ := info_parts info_I
  obtain ⟨hl, -, hfit⟩ := hF
  obtain ⟨hbg, hr, gp, ps, hp1, hB, hP, hps⟩ := h
  have HBk := Lib.hid hB
  have hgl := hB.lt
  have HR := Lib.hid (hr.more (show base ≤ w.heap.size by omega))
  obtain ⟨n, hn⟩ : ∃ n, T[a]? = some n := ⟨_, List.getElem?_eq_getElem ha⟩
  obtain ⟨s, hns, hs1, hs2, hin⟩ := hfit a n hn
  have hz : szAt T a = s := by unfold szAt; rw [hn]; simp [hns]
  unfold kidsOf
  rw [hz]
  obtain ⟨ad, rfl, -, g0, g1, g2, g3, g4⟩ := HR.out.node hn
  rw [hns] at g4
  have G4 := Lib.hid g4
  have HI := Lib.hid hin
  clear hr hB hP hfit hin hns hn hz hps g0 g1 g2 g3 g4
  go_enter Try.func15, Try.ntmps15
  go_wp2
  go_loopw [5, 6] (fun out i wr => ∃ (k f : Nat) (K : List Nat), a < k ∧ k ≤ a + s ∧ a + s ≤ f + k ∧ i = .int .i64 k ∧ K ++ kidsF T f k (a + s) = kidsF T s (a + 1) (a + s) ∧ wr.ownsRow w.heap.size 3 1 out K.length (intsN K) ∧ Below w.heap.size w wr) (fun _ i _ => a + s - (intOf i).toNat)
  case atStart => exact ⟨a + 1, s, [], by omega, by omega, by omega, by go_num, rfl, World.ownsRow_nil _ _ _ _, Below.refl _ _⟩
  case round =>
    obtain ⟨k, f, K, hak, hks, hfu, rfl, hK, ho, hbw⟩ := hrel
    have HB := Lib.hid hbw
    have hsw := hbw.size
    have HO := Lib.hid ho
    have HLt := Lib.hid ho.lt
    have HKe := Lib.hid hK
    have hlen : K.length ≤ 100 := by
      have h1 := congrArg List.length hK
      have h2 := kidsF_len T s (a + 1) (a + s)
      rw [List.length_append] at h1
      omega
    have y0 : wr.cell? ⟨gb, 0, none⟩ = some (.slice (some ad) T.length c) := (HBk.out.later HB.out).cell 0
    have e4 := cell_below G4.out HB.out
    have a0 : (0 : Int) ≤ (a : Int) := by omega
    have a1 : (a : Int) < (T.length : Int) := by omega
    clear hbw ho hK
    by_cases hlt : k < a + s
    · obtain ⟨f, rfl⟩ : ∃ f', f = f' + 1 := ⟨f - 1, by omega⟩
      obtain ⟨m, hm⟩ : ∃ m, T[k]? = some m := ⟨_, List.getElem?_eq_getElem (by omega)⟩
      obtain ⟨z, hmz, hz1, hz2⟩ := HI.out k m hak hlt hm
      obtain ⟨ad', hA, -, g0, g1, g2, g3, g4⟩ := HR.out.node hm
      injection hA with hA
      subst hA
      rw [hmz] at g4
      have G5 := Lib.hid g4
      have hszk : szAt T k = z := by unfold szAt; rw [hm]; simp [hmz]
      have HN : Hid ((K ++ [k]) ++ kidsF T f (k + z) (a + s) = kidsF T s (a + 1) (a + s)) := by
        have := HKe.out
        rw [kidsF_yes T f hlt, hszk] at this
        show K ++ [k] ++ kidsF T f (k + z) (a + s) = _
        rw [List.append_assoc]
        exact this
      clear g0 g1 g2 g3 g4 hmz hm hszk
      go_wp2_with (at_builtin; refine wpList_append_lies _ rfl (.tmp 31) (.tmp 33) _ rfl w.heap.size 3 i3 _ 1 8 Try.underlying40 hi3 hz3 hz3' hz3'' rfl (by omega) u5 K.length (intsN K) rfl (HO.out.alloc _) ⟨wr.heap.size, 0, none⟩ 1 1 [.int .i64 (k : Int)] rfl rfl (news_at _ _ _ _ (by simp)) (by simp [Value.oneCell']) (by omega) (by simp only [maxLen]; omega) (by omega) (by simp; omega) (wr.heap.size + 1) (by simp) ?_; intro g2 cap2 w4 hown4 hg4 hat4 hlt4; (have HW : Hid (Below w.heap.size w w4) := ((HB.out.alloc hsw _).grown hg4 (by simp; omega) (fun a ha => (HLt.out a ha).1))); (have y1 : w4.cell? ⟨gb, 0, none⟩ = some (.slice (some ad) T.length c) := (HBk.out.later HW.out).cell 0); (have e5 := cell_below G5.out HW.out); (have k0 : (0 : Int) ≤ (k : Int) := by omega); (have k1 : (k : Int) < (T.length : Int) := by omega); (have HO4 := Lib.hid hown4); (clear hown4 hg4 hat4 hlt4))
      go_roundw
      case rel => exact ⟨k + z, f, K ++ [k], by omega, by omega, by omega, by go_num, HN.out, by rw [intsN_snoc, List.length_append]; exact HO4.out, HW.out⟩
      case measure => simp [intOf]; omega
    · obtain rfl : k = a + s := by omega
      have hK2 : K = kidsF T s (a + 1) (a + s) := by
        have := HKe.out
        rw [kidsF_no T f (by omega), List.append_nil] at this
        exact this
      have HK2 := Lib.hid hK2
      clear hK2
      go_wp2
      go_ret
      exact ⟨u5, rfl, ⟨by rw [← HK2.out]; exact places_of_own HO.out, new_of_own HO.out⟩, HB.out⟩
end Go.Proofs.Ytionkdlcagikaaa
