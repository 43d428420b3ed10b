/-
  Seat b6613868a. THE WALKS of votingComplete (17), ZZvotingComplete (8).
-/
import Derived.Test.Qxb6613868aVote
namespace Go.Proofs.Qxb6613868a
open Go.ChangeShapes Go.WideShapes Go.ChangeAt Go.RowKit

/-- Every branch told 'kind'. -/
structure Tells (w : World) (b : Nat) (kind st : Int) (sp : Bool) (p1 p2v : Value) (lp : Nat) (ps : List Int) (ar : Option Addr) (l cr : Nat) (w' : World) : Prop where
  l : l = lp
  r : Acts w' w.heap.size w'.heap.size ar lp kind ps
  tx : Tx w' b st 0 sp 0 false p1 (.slice none 0 0) p2v (.slice none 0 0)
  kept : w.grownBy w' (some b)

theorem zzvc_any (b : Nat) (w : World) (R : Option Addr → Nat → Nat → World → Prop)
    (H : Hid (Calls Try.prog 17 #[.pointer (some ⟨b, 0, none⟩)] w fun e w' => ∃ a l c, e = .returned (.slice a l c) ∧ R a l c w')) :
    Calls Try.prog 8 #[.pointer (some ⟨b, 0, none⟩)] w fun e w' => ∃ a l c, e = .returned (.slice a l c) ∧ R a l c w' := by
  go_enter Try.func8, Try.ntmps8
  go_wp2_with fail
  refine (H.out).mono ?_; rintro e w1 ⟨a, l, c, rfl, q⟩
  go_wp2_with fail
  go_ret
  exact ⟨a, l, c, rfl, q⟩

/-- No durable branch: whatever phaseOneComplete does. -/
theorem vc_none (b : Nat) (a1 : Option Addr) (c1 : Nat) (w : World) (R : Option Addr → Nat → Nat → World → Prop) (c15 : w.cell? ⟨b, 15, none⟩ = some (.slice a1 0 c1))
    (H : Hid (Calls Try.prog 29 #[.pointer (some ⟨b, 0, none⟩)] w fun e w' => ∃ a l c, e = .returned (.slice a l c) ∧ R a l c w')) :
    Calls Try.prog 17 #[.pointer (some ⟨b, 0, none⟩)] w fun e w' => ∃ a l c, e = .returned (.slice a l c) ∧ R a l c w' := by
  go_enter Try.func17, Try.ntmps17
  go_wp2_with fail
  refine (H.out).mono ?_; rintro e w1 ⟨a, l, c, rfl, q⟩
  go_wp2_with fail
  go_ret
  exact ⟨a, l, c, rfl, q⟩

set_option maxHeartbeats 800000 in
/-- One durable branch, the flag set. -/
theorem vc_single (b : Nat) (a1 : Option Addr) (c1 : Nat) (p2v : Value) (ps : List Int) (lo hi : Nat) (w : World)
    (t : Tx w b 2 0 true 0 false (.slice a1 1 c1) (.slice none 0 0) p2v (.slice none 0 0)) (h1 : Arr w lo hi a1 1 ps) (hb : b < w.heap.size) (hhi : hi ≤ b) :
    Calls Try.prog 17 #[.pointer (some ⟨b, 0, none⟩)] w fun e w' => ∃ ar l cr, e = .returned (.slice ar l cr) ∧ Tells w b 4 4 true (.slice a1 1 c1) p2v 1 ps ar l cr w' := by
  have f0 := t.fz 0
  have c0 := t.c0
  have c15 := t.c15
  have c5 := t.c5
  have gr : w.grownBy (w.setCell ⟨b, 0, none⟩ (.int .u8 4)) (some b) := gb_set (World.grownBy.refl _ _) _ _
  go_enter Try.func17, Try.ntmps17
  go_wp2_with fail
  refine (tell_any 4 a1 1 c1 ps lo hi _ (h1.mono (Nat.le_refl _) (Nat.le_refl _) (fun k h1 h2 => gr.block k (by omega) (by simp; omega))) (by omega)).mono ?_; rintro e w1 ⟨g, cr, rfl, q1, q2⟩
  go_wp2_with fail
  go_ret
  exact ⟨_, _, _, rfl, rfl, (Acts_of_owns q1 h1.length).mono gr.size (Nat.le_refl _) (fun _ _ _ => rfl), (t.state 4).grown (Nat.lt_of_lt_of_le hb gr.size) q2 (by simp), gb_new gr q2 (fun g h => by cases h)⟩

set_option maxHeartbeats 800000 in
/-- Durable branches, not one alone with the flag set. -/
theorem vc_one (b : Nat) (sp : Bool) (a1 : Option Addr) (lp c1 : Nat) (p2v : Value) (ps : List Int) (lo hi : Nat) (w : World)
    (t : Tx w b 2 0 sp 0 false (.slice a1 lp c1) (.slice none 0 0) p2v (.slice none 0 0)) (h1 : Arr w lo hi a1 lp ps) (hb : b < w.heap.size) (hhi : hi ≤ b) (hpos : 1 ≤ lp) (hlp : lp ≤ 65536)
    (hs : lp = 1 → sp = false) :
    Calls Try.prog 17 #[.pointer (some ⟨b, 0, none⟩)] w fun e w' => ∃ ar l cr, e = .returned (.slice ar l cr) ∧ Tells w b 3 3 sp (.slice a1 lp c1) p2v lp ps ar l cr w' := by
  have f0 := t.fz 0
  have c0 := t.c0
  have c15 := t.c15
  have c5 := t.c5
  have gr : w.grownBy (w.setCell ⟨b, 0, none⟩ (.int .u8 3)) (some b) := gb_set (World.grownBy.refl _ _) _ _
  by_cases e1 : lp = 1
  · have := hs e1
    subst this
    subst e1
    clear hs
    go_enter Try.func17, Try.ntmps17
    go_wp2_with fail
    refine (tell_any 3 a1 1 c1 ps lo hi _ (h1.mono (Nat.le_refl _) (Nat.le_refl _) (fun k h1 h2 => gr.block k (by omega) (by simp; omega))) (by omega)).mono ?_; rintro e w1 ⟨g, cr, rfl, q1, q2⟩
    go_wp2_with fail
    go_ret
    exact ⟨_, _, _, rfl, rfl, (Acts_of_owns q1 h1.length).mono gr.size (Nat.le_refl _) (fun _ _ _ => rfl), (t.state 3).grown (Nat.lt_of_lt_of_le hb gr.size) q2 (by simp), gb_new gr q2 (fun g h => by cases h)⟩
  · have e2 : ((lp : Int) == 1) = false := by rw [beq_eq_false_iff_ne]; omega
    have e3 : ((lp : Int) == 0) = false := by rw [beq_eq_false_iff_ne]; omega
    clear hs
    go_enter Try.func17, Try.ntmps17
    go_wp2_with fail
    refine (tell_any 3 a1 lp c1 ps lo hi _ (h1.mono (Nat.le_refl _) (Nat.le_refl _) (fun k h1 h2 => gr.block k (by omega) (by simp; omega))) (by omega)).mono ?_; rintro e w1 ⟨g, cr, rfl, q1, q2⟩
    go_wp2_with fail
    go_ret
    exact ⟨_, _, _, rfl, rfl, (Acts_of_owns q1 h1.length).mono gr.size (Nat.le_refl _) (fun _ _ _ => rfl), (t.state 3).grown (Nat.lt_of_lt_of_le hb gr.size) q2 (by simp), gb_new gr q2 (fun g h => by cases h)⟩
end Go.Proofs.Qxb6613868a
