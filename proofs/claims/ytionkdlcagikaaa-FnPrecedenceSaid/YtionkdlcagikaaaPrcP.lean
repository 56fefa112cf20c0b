/-
  Lists of binds. Conditions: none.
-/
import Derived.Test.YtionkdlcagikaaaPrcO
namespace Go.Proofs.Ytionkdlcagikaaa
open Go.RowKit
set_option linter.unusedVariables false
set_option linter.unusedSimpArgs false

theorem info_lb : (Try.prog.info? 152).map (fun i => (i.zero, i.size, i.bytes)) = some (some (.agg bindZ), 12, 168) := by kernel_rfl
def BindsTo (base gb gp c : Nat) (A : Option Addr) (T : List Nd) (w : World) (e : Ending) (w' : World) : Prop :=
  ∃ (g : Nat) (cp : Nat), e = .returned (.slice (some ⟨g, 0, none⟩) 1 cp) ∧ But (fun k => k = gp) w w' ∧ BldP w' base gb gp A c T
theorem only_none {w w' : World} (h : w.grownBy w' (Value.slice none 0 0).ownBlock) : Below w.heap.size w w' := ⟨h.os, h.tape, h.output, h.size, fun i hi => h.block i hi (by simp [Value.ownBlock])⟩
theorem bindZ_size : (Value.agg bindZ).cells.size = 12 := by rfl
set_option maxRecDepth 100000 in
set_option maxHeartbeats 1000000 in
theorem binds_any (base gb gp c : Nat) (A : Option Addr) (T : List Nd) (a p : Nat) (n : Nd) (t : TypeId) (ad : Addr) (c7 : Nat) (w : World) (h : BldP w base gb gp A c T) (hF : Fit T) (hn : T[a]? = some n) (hk : kidsOf T a = [p]) (h32 : n.kind = 32) (h0 : n.flag = 0) (hnd : NodeOf base gb gp c A T p t)
    (ha : w.cell? ad = some (.int .i64 a)) :
    Calls Try.prog 26 #[.pointer (some ⟨gb, 0, none⟩), .slice (some ad) 1 c7] w (BindsTo base gb gp c A T w) := by
  obtain ⟨i3, hi3, hz3, hz3', hz3''⟩ := info_parts info_lb
  have HP := Lib.hid h
  have HBi : Hid (∀ w1 : World, BldP w1 base gb gp A c T → Calls Try.prog 31 #[.pointer (some ⟨gb, 0, none⟩), .int .i64 a] w1 (BindTo base gb gp c A T n.text w1)) := fun w1 h1 => bind_any base gb gp c A T a p n t w1 h1 hF hn hk h32 h0 hnd
  have HA := Lib.hid ha
  clear h hF hn hk h32 h0 hnd ha
  go_enter Try.func26, Try.ntmps26
  go_wp2
  go_loopw [5, 10] (fun out i wr => (i = .int .i64 0 ∧ out = .slice none 0 0 ∧ wr = w) ∨ (i = .int .i64 1 ∧ ∃ (g : Nat) (cp : Nat), out = .slice (some ⟨g, 0, none⟩) 1 cp ∧ But (fun k => k = gp) w wr ∧ BldP wr base gb gp A c T)) (fun _ i _ => 1 - (intOf i).toNat)
  case atStart => exact .inl ⟨rfl, rfl, rfl⟩
  case round =>
    rcases hrel with ⟨rfl, rfl, rfl⟩ | ⟨rfl, g, cp, rfl, hb, hB⟩
    · have ha := HA.out
      go_wp2_with (first
        | (go_at_call 31; refine (HBi.out _ HP.out).mono ?_; rintro e w1 ⟨t1, g1, he, hb1, hB1⟩; unfold bindV at he; subst he; have HB1 := Lib.hid (hB1.alloc (.cells #[.slice none 0 0, (.iface t1 (.pointer (some ⟨g1, 0, none⟩))), .slice none 0 0, .string n.text, .slice none 0 0, .pointer none, .pointer none, .string ⟨#[]⟩, .int .i64 0, .int .i64 0, .int .i64 0, .int .i64 0] 152)); have HBe1 := Lib.hid (hb1.alloc (.cells #[.slice none 0 0, (.iface t1 (.pointer (some ⟨g1, 0, none⟩))), .slice none 0 0, .string n.text, .slice none 0 0, .pointer none, .pointer none, .string ⟨#[]⟩, .int .i64 0, .int .i64 0, .int .i64 0, .int .i64 0] 152)); clear hb1 hB1)
        | (at_builtin; refine wpList_append_lies _ rfl (.tmp 14) (.tmp 18) _ rfl (w1.heap.size + 1) 152 i3 _ 12 168 (by kernel_rfl) hi3 hz3 hz3' hz3'' bindZ_size (by omega) (.slice none 0 0) 0 [] rfl (World.ownsRow_nil _ _ _ _) ⟨w1.heap.size, 0, none⟩ 1 1 [.slice none 0 0, (.iface t1 (.pointer (some ⟨g1, 0, none⟩))), .slice none 0 0, .string n.text, .slice none 0 0, .pointer none, .pointer none, .string ⟨#[]⟩, .int .i64 0, .int .i64 0, .int .i64 0, .int .i64 0] rfl rfl (news_at _ _ _ _ rfl) (by simp [Value.oneCell']) (by omega) (by simp only [maxLen]; omega) (by omega) (by simp) (w1.heap.size + 1) (by simp) ?_; intro g2 cap2 w4 hown4 hg4 hat4 hlt4; have HE4 := Lib.hid (HBe1.out.grown hg4 (fun k hk => by cases hk)); have HB4 := Lib.hid (HB1.out.below (only_none hg4)); clear hown4 hg4 hat4 hlt4))
      go_roundw
      case rel => exact .inr ⟨rfl, g2, cap2, rfl, HE4.out, HB4.out⟩
      case measure => simp [intOf]
    · have HB := Lib.hid hB
      have HBe := Lib.hid hb
      clear hb hB
      go_wp2
      go_ret
      exact ⟨g, cp, rfl, HBe.out, HB.out⟩
end Go.Proofs.Ytionkdlcagikaaa
