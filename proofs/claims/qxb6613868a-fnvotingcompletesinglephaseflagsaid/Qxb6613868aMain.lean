/-
  Seat b6613868a. THE LAW's WALK (3).
-/
import Derived.Test.Qxb6613868aAll
namespace Go.Proofs.Qxb6613868a
open Go.ChangeShapes Go.WideShapes Go.ChangeAt Go.RowKit

theorem bytes_any (a0 a1 : Option Addr) (l0 c0 l1 c1 : Nat) (h0 : l0 ≤ 9223372036854775807) (h1 : l1 ≤ 9223372036854775807) (w : World) :
    Calls Try.prog 5 #[.slice a0 l0 c0, .slice a1 l1 c1] w fun e w' => ∃ b : Bool, e = .returned (.bool b) ∧ w' = w := by
  by_cases g0 : l0 ≤ 1048576
  · by_cases g1 : l1 ≤ 1048576
    · go_enter Try.func5, Try.ntmps5
      go_wp2
      all_goals
        go_ret
        exact ⟨_, rfl, rfl⟩
    · go_enter Try.func5, Try.ntmps5
      go_wp2
      all_goals
        go_ret
        exact ⟨_, rfl, rfl⟩
  · go_enter Try.func5, Try.ntmps5
    go_wp2
    all_goals
      go_ret
      exact ⟨_, rfl, rfl⟩

set_option maxRecDepth 100000 in
set_option maxHeartbeats 1600000 in
theorem main_small (ap av : Option Addr) (lp cp lv cv : Nat) (ps vs : List Int) (w : World) (hp : Arr w 0 w.heap.size ap lp ps) (hv : Arr w 0 w.heap.size av lv vs) (hlp : lp ≤ 65536) (hlv : lv ≤ 65536) :
    Calls Try.prog 3 #[.slice ap lp cp, .slice av lv cv] w fun e w' => e = .returned (.bool true) ∧ Below w.heap.size w w' := by
  go_enter Try.func3, Try.ntmps3
  go_wp2_with fail
  refine (bytes_any ap av lp cp lv cv (by omega) (by omega) w).mono ?_; rintro e w' ⟨b, rfl, rfl⟩
  cases b with
  | false =>
    go_wp2_with fail
    go_ret
    exact ⟨rfl, Below.refl _ _⟩
  | true =>
    go_wp2_with fail
    refine (toEnl_any ap lp cp ps _ _ _ hp hlp).mono ?_; rintro e w1 ⟨a1, c1, rfl, q1, g1⟩
    have hv1 : Arr w1 0 w'.heap.size av lv vs := hv.mono (Nat.le_refl _) (Nat.le_refl _) (fun k _ h => g1.block k h (by simp))
    have hp1 : Arr w1 0 w'.heap.size ap lp ps := hp.mono (Nat.le_refl _) (Nat.le_refl _) (fun k _ h => g1.block k h (by simp))
    go_wp2_with fail
    refine (toEnl_any av lv cv vs _ _ _ hv1 hlv).mono ?_; rintro e w2 ⟨a2, c2, rfl, q2, g2⟩
    go_wp2_with fail
    refine (newTx_any true _ _ a1 a2 lp c1 lv c2 _ rfl rfl).mono ?_; rintro e w3 ⟨rfl, g3, s3, t3⟩
    have S3 := hide s3
    clear s3
    have g03 : w'.grownBy w3 none := gb_trans (gb_trans g1 g2) g3
    have hp3 : Arr w3 0 w'.heap.size ap lp ps := hp.mono (Nat.le_refl _) (Nat.le_refl _) (fun k _ h => g03.block k h (by simp))
    go_wp2_with fail
    refine (toEnl_any ap lp cp ps _ _ _ hp3 hlp).mono ?_; rintro e w4 ⟨a4, c4, rfl, q4, g4⟩
    have g04 : w'.grownBy w4 none := gb_trans g03 g4
    have hv4 : Arr w4 0 w'.heap.size av lv vs := hv.mono (Nat.le_refl _) (Nat.le_refl _) (fun k _ h => g04.block k h (by simp))
    go_wp2_with fail
    refine (toEnl_any av lv cv vs _ _ _ hv4 hlv).mono ?_; rintro e w5 ⟨a5, c5, rfl, q5, g5⟩
    go_wp2_with fail
    refine (newTx_any false _ _ a4 a5 lp c4 lv c5 _ rfl rfl).mono ?_; rintro e w6 ⟨rfl, g6, s6, t6⟩
    have S6 := hide s6
    clear s6
    have z1 := g1.size
    have z2 := g2.size
    have z3 : w3.heap.size = w2.heap.size + 1 := S3.out
    have z3' : w2.heap.size < w3.heap.size := by omega
    clear z3
    have z4 := g4.size
    have z5 := g5.size
    have z6' : w5.heap.size < w6.heap.size := by have := S6.out; omega
    have g36 : w3.grownBy w6 none := gb_trans (gb_trans g4 g5) g6
    have T1 : Tx w6 w2.heap.size 2 0 true 0 false (.slice a1 lp c1) (.slice none 0 0) (.slice a2 lv c2) (.slice none 0 0) := t3.grown z3' g36 (by simp)
    have A1 : Arr w6 w'.heap.size w2.heap.size a1 lp ps := q1.mono (Nat.le_refl _) z2 (fun k _ h => (g36.block k (by omega) (by simp)).trans ((g3.block k (by omega) (by simp)).trans (g2.block k h (by simp))))
    have V1 : Arr w6 w'.heap.size w2.heap.size a2 lv vs := q2.mono z1 (Nat.le_refl _) (fun k _ h => (g36.block k (by omega) (by simp)).trans (g3.block k h (by simp)))
    go_wp2_with fail
    refine (vc_all w2.heap.size w'.heap.size true a1 a2 lp c1 lv c2 ps vs _ T1 A1 V1 (by omega) (by omega) hlp hlv).mono ?_; rintro e w7 ⟨r1, n1, d1, rfl, VC1⟩
    have z7 := VC1.kept.size
    have T2 : Tx w7 w5.heap.size 2 0 false 0 false (.slice a4 lp c4) (.slice none 0 0) (.slice a5 lv c5) (.slice none 0 0) := t6.grown z6' VC1.kept (by simp; omega)
    have A2 : Arr w7 w3.heap.size w5.heap.size a4 lp ps := q4.mono (Nat.le_refl _) z5 (fun k k1 h => (VC1.kept.block k (by omega) (by simp; omega)).trans ((g6.block k (by omega) (by simp)).trans (g5.block k h (by simp))))
    have V2 : Arr w7 w3.heap.size w5.heap.size a5 lv vs := q5.mono z4 (Nat.le_refl _) (fun k k1 h => (VC1.kept.block k (by omega) (by simp; omega)).trans (g6.block k h (by simp)))
    go_wp2_with fail
    refine (vc_all w5.heap.size w3.heap.size false a4 a5 lp c4 lv c5 ps vs _ T2 A2 V2 (by omega) (by omega) hlp hlv).mono ?_; rintro e w8 ⟨r2, n2, d2, rfl, VC2⟩
    have z8 := VC2.kept.size
    have g08 : w'.grownBy w8 none := gb_new (gb_new (gb_trans (gb_trans g04 g5) g6) VC1.kept (fun g h => by cases h; omega)) VC2.kept (fun g h => by cases h; omega)
    have hb : Below w'.heap.size w' w8 := ⟨g08.os, g08.tape, g08.output, g08.size, fun k hk => g08.block k hk (by simp)⟩
    have m1 : ∀ n, Calls Try.prog 10 #[.pointer (some ⟨w2.heap.size, 0, none⟩), .slice r1 n1 d1, .slice ap lp cp, .slice av lv cv, .bool true] (w8.drewN n) fun e w3 => e = .returned (.bool true) ∧ ∃ m, w3 = (w8.drewN n).drewN m :=
      fun n => VC1.model (w8.drewN n) ap av cp cv w'.heap.size (fun k hk => VC2.kept.block k (by omega) (by simp; omega)) (hp.mono (Nat.le_refl _) (Nat.le_refl _) (fun k _ h => hb.block k h)) (hv.mono (Nat.le_refl _) (Nat.le_refl _) (fun k _ h => hb.block k h))
    have m2 : ∀ n, Calls Try.prog 10 #[.pointer (some ⟨w5.heap.size, 0, none⟩), .slice r2 n2 d2, .slice ap lp cp, .slice av lv cv, .bool false] (w8.drewN n) fun e w3 => e = .returned (.bool true) ∧ ∃ m, w3 = (w8.drewN n).drewN m :=
      fun n => VC2.model (w8.drewN n) ap av cp cv w'.heap.size (fun k hk => rfl) (hp.mono (Nat.le_refl _) (Nat.le_refl _) (fun k _ h => hb.block k h)) (hv.mono (Nat.le_refl _) (Nat.le_refl _) (fun k _ h => hb.block k h))
    have M1 := hide m1
    have M2 := hide m2
    clear m1 m2
    by_cases h2 : 2 ≤ lp
    · obtain ⟨e1, B1⟩ := VC1.two h2
      obtain ⟨e2, B2⟩ := VC2.two h2
      subst e1
      subst e2
      have B1' : Acts w8 w6.heap.size w7.heap.size r1 n2 3 ps := B1.mono (Nat.le_refl _) (Nat.le_refl _) (fun k k1 k2 => VC2.kept.block k (by omega) (by simp; omega))
      go_wp2_with fail
      refine (sameActions_any 3 r1 r2 n2 d1 d2 ps _ _ _ _ _ B1' B2 hlp).mono ?_; rintro e w9 ⟨rfl, k1, rfl⟩
      go_wp2_with fail
      refine (M1.out _).mono ?_; rintro e w9 ⟨rfl, k2, rfl⟩
      go_wp2_with fail
      refine (M2.out _).mono ?_; rintro e w9 ⟨rfl, k3, rfl⟩
      go_wp2_with fail
      go_ret
      exact ⟨rfl, hb.os, hb.tape, hb.output, hb.size, hb.block⟩
    · have h2' : ¬ (2 : Int) ≤ (lp : Int) := by omega
      go_wp2_with fail
      refine (M1.out 0).mono ?_; rintro e w9 ⟨rfl, k2, rfl⟩
      go_wp2_with fail
      refine (M2.out _).mono ?_; rintro e w9 ⟨rfl, k3, rfl⟩
      go_wp2_with fail
      go_ret
      exact ⟨rfl, hb.os, hb.tape, hb.output, hb.size, hb.block⟩

theorem main_large (ap av : Option Addr) (lp cp lv cv : Nat) (w : World) (hlp : lp ≤ 9223372036854775807) (hlv : lv ≤ 9223372036854775807) (h : 65536 < lp ∨ 65536 < lv) :
    Calls Try.prog 3 #[.slice ap lp cp, .slice av lv cv] w fun e w' => e = .returned (.bool true) ∧ Below w.heap.size w w' := by
  by_cases h1 : 65536 < lp
  · clear h
    go_enter Try.func3, Try.ntmps3
    go_wp2_with fail
    refine (bytes_any ap av lp cp lv cv hlp hlv w).mono ?_; rintro e w' ⟨b, rfl, rfl⟩
    cases b <;>
    · go_wp2_with fail
      go_ret
      exact ⟨rfl, Below.refl _ _⟩
  · have h2 : 65536 < lv := by omega
    clear h
    go_enter Try.func3, Try.ntmps3
    go_wp2_with fail
    refine (bytes_any ap av lp cp lv cv hlp hlv w).mono ?_; rintro e w' ⟨b, rfl, rfl⟩
    cases b <;>
    · go_wp2_with fail
      go_ret
      exact ⟨rfl, Below.refl _ _⟩
end Go.Proofs.Qxb6613868a
