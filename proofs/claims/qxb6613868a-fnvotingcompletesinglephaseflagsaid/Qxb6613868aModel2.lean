/-
  Seat b6613868a. THE WALKS of votingCompleteAsModel (10), the ways with no durable branch.
-/
import Derived.Test.Qxb6613868aModel
namespace Go.Proofs.Qxb6613868a
open Go.ChangeShapes Go.WideShapes Go.ChangeAt Go.RowKit

set_option maxRecDepth 100000 in
set_option maxHeartbeats 800000 in
/-- Nobody at all: Read Only. -/
theorem model_none (b br : Nat) (sp single : Bool) (a1 av ap aw a2 at' : Option Addr) (c1 cv cp cw c2 ct cr : Nat) (w : World)
    (t : Tx w b 9 4 sp 0 false (.slice a1 0 c1) (.slice a2 0 c2) (.slice av 0 cv) (.slice at' 0 ct))
    (r0 : w.cell? ⟨br, 0, none⟩ = some (.int .u8 11)) (r1 : w.cell? ⟨br, 1, none⟩ = some (.int .u32 0)) (r2 : w.cell? ⟨br, 2, none⟩ = some (.int .u8 4)) :
    Calls Try.prog 10 #[.pointer (some ⟨b, 0, none⟩), .slice (some ⟨br, 0, none⟩) 1 cr, .slice ap 0 cp, .slice aw 0 cw, .bool single] w fun e w' => e = .returned (.bool true) ∧ ∃ n, w' = w.drewN n := by
  go_enter Try.func10, Try.ntmps10
  go_wp2_with fail
  refine (phaseOne_any b a1 0 c1 _ t.c15).mono ?_; rintro e w' ⟨rfl, rfl⟩
  go_wp2_with fail
  refine (phaseTwo_any b a2 0 c2 _ t.c16).mono ?_; rintro e w' ⟨rfl, rfl⟩
  go_wp2_with fail
  refine (logging_any b 0 _ t.c6).mono ?_; rintro e w' ⟨rfl, rfl⟩
  go_wp2_with fail
  refine (onlyAnswer_any 4 br cr _ r0 r1 r2).mono ?_; rintro e w' ⟨rfl, rfl⟩
  go_wp2_with fail
  refine (state_any b 9 _ t.c0).mono ?_; rintro e w' ⟨rfl, rfl⟩
  go_wp2_with fail
  refine (outcome_any b 4 _ t.c2).mono ?_; rintro e w' ⟨rfl, rfl⟩
  go_wp2_with fail
  refine (prepared_any b false _ t.c7).mono ?_; rintro e w' ⟨rfl, rfl⟩
  go_wp2_with fail
  refine (told_any b at' 0 ct _ t.c18).mono ?_; rintro e w' ⟨rfl, rfl⟩
  go_wp2_with fail
  refine (voters_any b av 0 cv _ t.c14).mono ?_; rintro e w' ⟨rfl, rfl⟩
  go_wp2_with fail
  go_ret
  exact ⟨rfl, 0, rfl⟩

set_option maxRecDepth 100000 in
set_option maxHeartbeats 800000 in
/-- Voters alone, the flag cleared: Prepared. -/
theorem model_prep (b br : Nat) (sp : Bool) (a1 av ap aw a2 at' : Option Addr) (lv c1 cv cp cw c2 ct cr : Nat) (vs : List Int) (lo hi lo' hi' : Nat) (w : World)
    (t : Tx w b 5 0 sp 0 true (.slice a1 0 c1) (.slice a2 0 c2) (.slice av lv cv) (.slice at' 0 ct)) (hv : Arr w lo hi av lv vs) (hw : Arr w lo' hi' aw lv vs) (hlv : lv ≤ 65536) (hpos : 1 ≤ lv)
    (r0 : w.cell? ⟨br, 0, none⟩ = some (.int .u8 11)) (r1 : w.cell? ⟨br, 1, none⟩ = some (.int .u32 0)) (r2 : w.cell? ⟨br, 2, none⟩ = some (.int .u8 1)) :
    Calls Try.prog 10 #[.pointer (some ⟨b, 0, none⟩), .slice (some ⟨br, 0, none⟩) 1 cr, .slice ap 0 cp, .slice aw lv cw, .bool false] w fun e w' => e = .returned (.bool true) ∧ ∃ n, w' = w.drewN n := by
  have e2 : ((lv : Int) == 0) = false := by rw [beq_eq_false_iff_ne]; omega
  go_enter Try.func10, Try.ntmps10
  go_wp2_with fail
  refine (phaseOne_any b a1 0 c1 _ t.c15).mono ?_; rintro e w' ⟨rfl, rfl⟩
  go_wp2_with fail
  refine (phaseTwo_any b a2 0 c2 _ t.c16).mono ?_; rintro e w' ⟨rfl, rfl⟩
  go_wp2_with fail
  refine (logging_any b 0 _ t.c6).mono ?_; rintro e w' ⟨rfl, rfl⟩
  go_wp2_with fail
  refine (onlyAnswer_any 1 br cr _ r0 r1 r2).mono ?_; rintro e w' ⟨rfl, rfl⟩
  go_wp2_with fail
  refine (state_any b 5 _ t.c0).mono ?_; rintro e w' ⟨rfl, rfl⟩
  go_wp2_with fail
  refine (prepared_any b true _ t.c7).mono ?_; rintro e w' ⟨rfl, rfl⟩
  go_wp2_with fail
  refine (outcome_any b 0 _ t.c2).mono ?_; rintro e w' ⟨rfl, rfl⟩
  go_wp2_with fail
  refine (told_any b at' 0 ct _ t.c18).mono ?_; rintro e w' ⟨rfl, rfl⟩
  go_wp2_with fail
  refine (voters_any b av lv cv _ t.c14).mono ?_; rintro e w' ⟨rfl, rfl⟩
  go_wp2_with fail
  refine (sameEnl_any av aw lv cv cw vs _ _ _ _ _ hv hw hlv).mono ?_; rintro e w' ⟨rfl, n2, rfl⟩
  go_wp2_with fail
  go_ret
  exact ⟨rfl, _, rfl⟩

set_option maxRecDepth 100000 in
set_option maxHeartbeats 800000 in
/-- Voters alone, the flag set: Committed. -/
theorem model_commit (b : Nat) (sp : Bool) (a1 av ap aw a2 at' ar : Option Addr) (lv c1 cv cp cw c2 ct cr : Nat) (vs : List Int) (lo hi lo' hi' lo2 hi2 : Nat) (w : World)
    (t : Tx w b 6 3 sp 0 false (.slice a1 0 c1) (.slice a2 0 c2) (.slice av 0 cv) (.slice at' lv ct)) (ht : Arr w lo hi at' lv vs) (hw : Arr w lo' hi' aw lv vs) (hlv : lv ≤ 65536) (hpos : 1 ≤ lv)
    (hr : Acts w lo2 hi2 ar lv 8 vs) :
    Calls Try.prog 10 #[.pointer (some ⟨b, 0, none⟩), .slice ar lv cr, .slice ap 0 cp, .slice aw lv cw, .bool true] w fun e w' => e = .returned (.bool true) ∧ ∃ n, w' = w.drewN n := by
  have e2 : ((lv : Int) == 0) = false := by rw [beq_eq_false_iff_ne]; omega
  go_enter Try.func10, Try.ntmps10
  go_wp2_with fail
  refine (phaseOne_any b a1 0 c1 _ t.c15).mono ?_; rintro e w' ⟨rfl, rfl⟩
  go_wp2_with fail
  refine (phaseTwo_any b a2 0 c2 _ t.c16).mono ?_; rintro e w' ⟨rfl, rfl⟩
  go_wp2_with fail
  refine (logging_any b 0 _ t.c6).mono ?_; rintro e w' ⟨rfl, rfl⟩
  go_wp2_with fail
  refine (toldEach_any 8 ar aw lv cr cw vs _ _ _ _ _ hr hw hlv).mono ?_; rintro e w' ⟨rfl, n1, rfl⟩
  go_wp2_with fail
  refine (state_any b 6 _ (t.drewN n1).c0).mono ?_; rintro e w' ⟨rfl, rfl⟩
  go_wp2_with fail
  refine (outcome_any b 3 _ (t.drewN n1).c2).mono ?_; rintro e w' ⟨rfl, rfl⟩
  go_wp2_with fail
  refine (prepared_any b false _ (t.drewN n1).c7).mono ?_; rintro e w' ⟨rfl, rfl⟩
  go_wp2_with fail
  refine (told_any b at' lv ct _ (t.drewN n1).c18).mono ?_; rintro e w' ⟨rfl, rfl⟩
  go_wp2_with fail
  refine (sameEnl_any at' aw lv ct cw vs _ _ _ _ _ (ht.drewN n1) (hw.drewN n1) hlv).mono ?_; rintro e w' ⟨rfl, n2, rfl⟩
  go_wp2_with fail
  refine (voters_any b av 0 cv _ (t.drewN (n1 + n2)).c14).mono ?_; rintro e w' ⟨rfl, rfl⟩
  go_wp2_with fail
  go_ret
  exact ⟨rfl, _, rfl⟩
end Go.Proofs.Qxb6613868a
