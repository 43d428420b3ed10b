/-
  Seat b6613868a. THE WALKS of commit (35), logOrTell (33), phaseOneComplete (29), votingComplete (17), ZZvotingComplete (8).
-/
import Derived.Test.Qxb6613868aWrite
namespace Go.Proofs.Qxb6613868a
open Go.ChangeShapes Go.WideShapes Go.ChangeAt Go.RowKit

set_option maxRecDepth 100000 in
set_option maxHeartbeats 800000 in
theorem commit_any (b : Nat) (p1 : Value) (av : Option Addr) (lv cv : Nat) (vs : List Int) (lo hi : Nat) (w : World)
    (t : Tx w b 5 0 true 0 false p1 (.slice none 0 0) (.slice av lv cv) (.slice none 0 0)) (hv : Arr w lo hi av lv vs) (hlv : lv ≤ 65536) (hpos : 1 ≤ lv) (hb : b < w.heap.size) (hhi : hi ≤ b) :
    Calls Try.prog 35 #[.pointer (some ⟨b, 0, none⟩)] w fun e w' => ∃ ar cr at' ct, e = .returned (.slice ar lv cr) ∧ Acts w' w.heap.size w'.heap.size ar lv 8 vs ∧
      Arr w' w.heap.size w'.heap.size at' lv vs ∧ Tx w' b 6 3 true 0 false p1 (.slice none 0 0) (.slice none 0 0) (.slice at' lv ct) ∧ w.grownBy w' (some b) := by
  have f0 := t.fz 0
  have f2 := t.fz 2
  have c0 := t.c0
  have c2 := t.c2
  have H : Hid (Calls Try.prog 31 #[.pointer (some ⟨b, 0, none⟩), .int .u8 8, .slice (some ⟨w.heap.size, 0, none⟩) 2 2]
      (((w.setCell ⟨b, 0, none⟩ (.int .u8 6)).setCell ⟨b, 2, none⟩ (.int .u8 3)).alloc (.cells #[.pointer (some ⟨b, 16, none⟩), .pointer (some ⟨b, 14, none⟩)] 56)).drew fun e w' => ∃ ar cr at' ct, e = .returned (.slice ar lv cr) ∧ Acts w' w.heap.size w'.heap.size ar lv 8 vs ∧
      Arr w' w.heap.size w'.heap.size at' lv vs ∧ Tx w' b 6 3 true 0 false p1 (.slice none 0 0) (.slice none 0 0) (.slice at' lv ct) ∧ w.grownBy w' (some b)) := by
    have hsz : ((w.setCell ⟨b, 0, none⟩ (.int .u8 6)).setCell ⟨b, 2, none⟩ (.int .u8 3)).heap.size = w.heap.size := by simp
    have hb2 : b < ((w.setCell ⟨b, 0, none⟩ (.int .u8 6)).setCell ⟨b, 2, none⟩ (.int .u8 3)).heap.size := by rw [hsz]; exact hb
    have gr : w.grownBy (((w.setCell ⟨b, 0, none⟩ (.int .u8 6)).setCell ⟨b, 2, none⟩ (.int .u8 3)).alloc (.cells #[.pointer (some ⟨b, 16, none⟩), .pointer (some ⟨b, 14, none⟩)] 56)).drew (some b) :=
      gb_drew (gb_alloc (gb_set (gb_set (World.grownBy.refl _ _) _ _) _ _) _)
    refine (tellEvery_two b w.heap.size p1 av lv cv vs lo hi (.slice none 0 0) _ (((t.state 6).outc 3).alloc hb2 _).drew (hv.mono (Nat.le_refl _) (Nat.le_refl _) (fun k h1 h2 => gr.block k (by omega) (by simp; omega))) hlv hpos (Nat.lt_of_lt_of_le hb gr.size) (by omega) hhi ?_ ?_).mono ?_
    · show World.cell? (World.alloc _ _) _ = _
      rw [World.cell?_alloc_at _ _ _ _ hsz.symm]; rfl
    · show World.cell? (World.alloc _ _) _ = _
      rw [World.cell?_alloc_at _ _ _ _ hsz.symm]; rfl
    · rintro e w' ⟨ar, cr, at', ct, rfl, q1, q2, q3, q4⟩
      exact ⟨ar, cr, at', ct, rfl, q1.mono gr.size (Nat.le_refl _) (fun _ _ _ => rfl), q2.mono gr.size (Nat.le_refl _) (fun _ _ _ => rfl), q3, gb_trans gr q4⟩
  go_enter Try.func35, Try.ntmps35
  go_wp2
  go_region_with (go_at_call 31; refine (H.out).mono ?_; rintro e w1 ⟨ar, cr, at', ct, rfl, q1, q2, q3, q4⟩)
  all_goals
    go_wp2
    go_ret
    exact ⟨ar, cr, at', ct, rfl, q1, q2, q3, q4⟩

theorem logOrTell_commit (b : Nat) (lg : Int) (w : World) (R : Option Addr → Nat → Nat → World → Prop) (c16 : w.cell? ⟨b, 16, none⟩ = some (.slice none 0 0))
    (H : Hid (Calls Try.prog 35 #[.pointer (some ⟨b, 0, none⟩)] w fun e w' => ∃ a l c, e = .returned (.slice a l c) ∧ R a l c w')) :
    Calls Try.prog 33 #[.pointer (some ⟨b, 0, none⟩), .int .u8 lg, .func (Fn.func 35) #[.pointer (some ⟨b, 0, none⟩)] #[]] w fun e w' => ∃ a l c, e = .returned (.slice a l c) ∧ R a l c w' := by
  go_enter Try.func33, Try.ntmps33
  go_wp2_with fail
  refine (H.out).mono ?_; rintro e w1 ⟨a, l, c, rfl, q⟩
  go_wp2_with fail
  go_ret
  exact ⟨a, l, c, rfl, q⟩
theorem logOrTell_prep (b : Nat) (lg : Int) (w : World) (R : Option Addr → Nat → Nat → World → Prop) (c16 : w.cell? ⟨b, 16, none⟩ = some (.slice none 0 0))
    (H : Hid (Calls Try.prog 34 #[.pointer (some ⟨b, 0, none⟩)] w fun e w' => ∃ a l c, e = .returned (.slice a l c) ∧ R a l c w')) :
    Calls Try.prog 33 #[.pointer (some ⟨b, 0, none⟩), .int .u8 lg, .func (Fn.func 34) #[.pointer (some ⟨b, 0, none⟩)] #[]] w fun e w' => ∃ a l c, e = .returned (.slice a l c) ∧ R a l c w' := by
  go_enter Try.func33, Try.ntmps33
  go_wp2_with fail
  refine (H.out).mono ?_; rintro e w1 ⟨a, l, c, rfl, q⟩
  go_wp2_with fail
  go_ret
  exact ⟨a, l, c, rfl, q⟩

/-- What a call on the transaction at b leaves: the answer, the transaction, the rest. -/
structure Commits (w : World) (b : Nat) (sp : Bool) (p1 : Value) (lv : Nat) (vs : List Int) (ar : Option Addr) (l cr : Nat) (w' : World) : Prop where
  l : l = lv
  r : Acts w' w.heap.size w'.heap.size ar lv 8 vs
  told : ∃ at' ct, Arr w' w.heap.size w'.heap.size at' lv vs ∧ Tx w' b 6 3 sp 0 false p1 (.slice none 0 0) (.slice none 0 0) (.slice at' lv ct)
  kept : w.grownBy w' (some b)

/-- One answer, the superior told o; the transaction. -/
structure Answers (w : World) (b : Nat) (o st oc : Int) (sp pr : Bool) (p1 p2v : Value) (ar : Option Addr) (l cr : Nat) (w' : World) : Prop where
  l : l = 1
  r : ∃ g, ar = some ⟨g, 0, none⟩ ∧ w.heap.size ≤ g ∧ g < w'.heap.size ∧ w'.cell? ⟨g, 0, none⟩ = some (.int .u8 11) ∧ w'.cell? ⟨g, 1, none⟩ = some (.int .u32 0) ∧ w'.cell? ⟨g, 2, none⟩ = some (.int .u8 o)
  tx : Tx w' b st oc sp 0 pr p1 (.slice none 0 0) p2v (.slice none 0 0)
  kept : w.grownBy w' (some b)

set_option maxHeartbeats 800000 in
/-- voters alone, the flag set: phaseOneComplete commits. -/
theorem p1c_commit (b : Nat) (p1 : Value) (av : Option Addr) (lv cv : Nat) (vs : List Int) (lo hi : Nat) (w : World)
    (t : Tx w b 2 0 true 0 false p1 (.slice none 0 0) (.slice av lv cv) (.slice none 0 0)) (hv : Arr w lo hi av lv vs) (hlv : lv ≤ 65536) (hpos : 1 ≤ lv) (hb : b < w.heap.size) (hhi : hi ≤ b) :
    Calls Try.prog 29 #[.pointer (some ⟨b, 0, none⟩)] w fun e w' => ∃ ar l cr, e = .returned (.slice ar l cr) ∧ Commits w b true p1 lv vs ar l cr w' := by
  have f0 := t.fz 0
  have c0 := t.c0
  have c16 := t.c16
  have c14 := t.c14
  have c5 := t.c5
  have e2 : ((lv : Int) == 0) = false := by rw [beq_eq_false_iff_ne]; omega
  have gr : w.grownBy (w.setCell ⟨b, 0, none⟩ (.int .u8 5)) (some b) := gb_set (World.grownBy.refl _ _) _ _
  have H : Hid (Calls Try.prog 35 #[.pointer (some ⟨b, 0, none⟩)] (w.setCell ⟨b, 0, none⟩ (.int .u8 5)) fun e w' => ∃ ar l cr, e = .returned (.slice ar l cr) ∧ Commits w b true p1 lv vs ar l cr w') := by
    refine (commit_any b p1 av lv cv vs lo hi _ (t.state 5) (hv.mono (Nat.le_refl _) (Nat.le_refl _) (fun k h1 h2 => gr.block k (by omega) (by simp; omega))) hlv hpos (Nat.lt_of_lt_of_le hb gr.size) hhi).mono ?_
    rintro e w' ⟨ar, cr, at', ct, rfl, q1, q2, q3, q4⟩
    exact ⟨ar, _, cr, rfl, rfl, q1.mono gr.size (Nat.le_refl _) (fun _ _ _ => rfl), ⟨at', ct, q2.mono gr.size (Nat.le_refl _) (fun _ _ _ => rfl), q3⟩, gb_trans gr q4⟩
  go_enter Try.func29, Try.ntmps29
  go_wp2_with fail
  refine (logOrTell_commit b 5 _ _ (t.state 5).c16 H).mono ?_; rintro e w1 ⟨a, l, c, rfl, q⟩
  go_wp2_with fail
  go_ret
  exact ⟨a, l, c, rfl, q⟩

set_option maxHeartbeats 800000 in
/-- voters alone, the flag cleared: phaseOneComplete answers Prepared. -/
theorem p1c_prep (b : Nat) (p1 : Value) (av : Option Addr) (lv cv : Nat) (w : World)
    (t : Tx w b 2 0 false 0 false p1 (.slice none 0 0) (.slice av lv cv) (.slice none 0 0)) (hpos : 1 ≤ lv) (hb : b < w.heap.size) :
    Calls Try.prog 29 #[.pointer (some ⟨b, 0, none⟩)] w fun e w' => ∃ ar l cr, e = .returned (.slice ar l cr) ∧ Answers w b 1 5 0 false true p1 (.slice av lv cv) ar l cr w' := by
  have f0 := t.fz 0
  have c0 := t.c0
  have c16 := t.c16
  have c14 := t.c14
  have c5 := t.c5
  have e2 : ((lv : Int) == 0) = false := by rw [beq_eq_false_iff_ne]; omega
  have gr : w.grownBy (w.setCell ⟨b, 0, none⟩ (.int .u8 5)) (some b) := gb_set (World.grownBy.refl _ _) _ _
  have H : Hid (Calls Try.prog 34 #[.pointer (some ⟨b, 0, none⟩)] (w.setCell ⟨b, 0, none⟩ (.int .u8 5)) fun e w' => ∃ ar l cr, e = .returned (.slice ar l cr) ∧ Answers w b 1 5 0 false true p1 (.slice av lv cv) ar l cr w') := by
    refine (prep_any b _ (t.state 5).c7 ((t.state 5).fz 7)).mono ?_
    rintro e w' ⟨rfl, rfl⟩
    refine ⟨_, _, _, rfl, rfl, ⟨_, rfl, by simp, by simp, ?_, ?_, ?_⟩, ((t.state 5).prepd true).alloc (by simpa using hb) _, gb_alloc (gb_set gr _ _) _⟩
    · rw [World.cell?_alloc_at _ _ _ _ (by simp)]; rfl
    · rw [World.cell?_alloc_at _ _ _ _ (by simp)]; rfl
    · rw [World.cell?_alloc_at _ _ _ _ (by simp)]; rfl
  go_enter Try.func29, Try.ntmps29
  go_wp2_with fail
  refine (logOrTell_prep b 6 _ _ (t.state 5).c16 H).mono ?_; rintro e w1 ⟨a, l, c, rfl, q⟩
  go_wp2_with fail
  go_ret
  exact ⟨a, l, c, rfl, q⟩

set_option maxHeartbeats 800000 in
/-- nobody: phaseOneComplete ends Read Only. -/
theorem p1c_none (b : Nat) (sp : Bool) (p1 : Value) (av : Option Addr) (cv : Nat) (w : World)
    (t : Tx w b 2 0 sp 0 false p1 (.slice none 0 0) (.slice av 0 cv) (.slice none 0 0)) (hb : b < w.heap.size) :
    Calls Try.prog 29 #[.pointer (some ⟨b, 0, none⟩)] w fun e w' => ∃ ar l cr, e = .returned (.slice ar l cr) ∧ Answers w b 4 9 4 sp false p1 (.slice av 0 cv) ar l cr w' := by
  have f0 := t.fz 0
  have f2 := t.fz 2
  have c0 := t.c0
  have c2 := t.c2
  have c16 := t.c16
  have c14 := t.c14
  have t2 := (t.state 5).outc 4
  have gr : w.grownBy ((w.setCell ⟨b, 0, none⟩ (.int .u8 5)).setCell ⟨b, 2, none⟩ (.int .u8 4)) (some b) := gb_set (gb_set (World.grownBy.refl _ _) _ _) _ _
  go_enter Try.func29, Try.ntmps29
  go_wp2_with fail
  refine (endIf_none b none 0 5 4 _ t2.c18 t2.c0 (by decide) t2.c2 (t2.fz 0)).mono ?_; rintro e w1 ⟨rfl, rfl⟩
  go_wp2_with fail
  go_ret
  refine ⟨_, _, _, rfl, rfl, ⟨_, rfl, by simp, by simp, ?_, ?_, ?_⟩, (t2.state 9).alloc (by simpa using hb) _, gb_alloc (gb_set gr _ _) _⟩
  · rw [World.cell?_alloc_at _ _ _ _ (by simp)]; rfl
  · rw [World.cell?_alloc_at _ _ _ _ (by simp)]; rfl
  · rw [World.cell?_alloc_at _ _ _ _ (by simp)]; rfl
end Go.Proofs.Qxb6613868a
