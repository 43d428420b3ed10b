/-
  Seat b6613941aF. THE LAW's WALK (3).
-/
import Derived.Test.Qxb6613941aFmtZz
namespace Go.Proofs.Qxb6613941aFmt
open Go.RowKit Go.Extern.Stop Go.Stop Go.Extern
set_option linter.unusedVariables false

set_option maxHeartbeats 1600000 in
theorem bytes3 (has sp : Bool) (x1 x2 x3 x4 x5 : ByteArray) (h1 : x1.size ≤ 9223372036854775807) (h2 : x2.size ≤ 9223372036854775807) (h3 : x3.size ≤ 9223372036854775807) (h4 : x4.size ≤ 9223372036854775807) (h5 : x5.size ≤ 9223372036854775807) (w : World) :
    Calls Tryf.prog 5 #[.bool has, .string x1, .string x2, .string x3, .bool sp, .string x4, .string x5] w fun e w' => ∃ b : Bool, e = .returned (.bool b) ∧ w' = w := by
  go_enter Tryf.func5, Tryf.ntmps5
  go_wp2
  all_goals
    go_ret
    exact ⟨_, rfl, rfl⟩

theorem zz_yes (F : Interp) (s : Nat) (a : Option Addr) (enc : Int) (sp has : Bool) (repo pft path : ByteArray) (w : World) (hF : F.answers w.tape) (h : Ent w s) (hr : Reg w a has repo) (hy : refused enc sp has repo = true) :
    Calls Tryf.prog 7 #[.pointer (some ⟨s, 0, none⟩), .agg #[.pointer a, .int .i64 enc, .bool sp, .string pft], .string path] w fun e w' => ∃ v, e = .returned (.iface 49 v) ∧ Below w.heap.size w w' := by
  refine (zz_all F s a enc sp has repo pft path w hF h hr).mono ?_
  rintro e w1 ⟨⟨h1⟩, h2⟩
  rcases h1 with ⟨h3, v, rfl⟩ | ⟨h3, rfl⟩
  · exact ⟨v, rfl, h2⟩
  · rw [hy] at h3; cases h3
theorem zz_no (F : Interp) (s : Nat) (a : Option Addr) (enc : Int) (sp has : Bool) (repo pft path : ByteArray) (w : World) (hF : F.answers w.tape) (h : Ent w s) (hr : Reg w a has repo) (hy : refused enc sp has repo = false) :
    Calls Tryf.prog 7 #[.pointer (some ⟨s, 0, none⟩), .agg #[.pointer a, .int .i64 enc, .bool sp, .string pft], .string path] w fun e w' => e = .returned .nilIface ∧ Below w.heap.size w w' := by
  refine (zz_all F s a enc sp has repo pft path w hF h hr).mono ?_
  rintro e w1 ⟨⟨h1⟩, h2⟩
  rcases h1 with ⟨h3, v, rfl⟩ | ⟨h3, rfl⟩
  · rw [hy] at h3; cases h3
  · exact ⟨rfl, h2⟩

theorem answers_below {F : Interp} {w w' : World} {B : Nat} (hF : F.answers w.tape) (h : Below B w w') : F.answers w'.tape := by rw [h.tape]; exact hF

set_option maxRecDepth 100000 in
set_option maxHeartbeats 3200000 in
theorem main3_ff (F : Interp) (host repo sec pft path : ByteArray) (h1 : host.size ≤ 9223372036854775807) (h2 : repo.size ≤ 9223372036854775807) (h3 : sec.size ≤ 9223372036854775807) (h4 : pft.size ≤ 9223372036854775807) (h5 : path.size ≤ 9223372036854775807)
    (w : World) (hF : F.answers w.tape) :
    Calls Tryf.prog 3 #[.bool false, .string host, .string repo, .string sec, .bool false, .string pft, .string path] w fun e w' => e = .returned (.bool true) ∧ Below w.heap.size w w' := by
  go_enter Tryf.func3, Tryf.ntmps3
  go_wp2_with fail
  refine (bytes3 false false host repo sec pft path h1 h2 h3 h4 h5 w).mono ?_; rintro e w' ⟨b, rfl, rfl⟩
  cases b
  · go_wp2_with fail
    go_ret
    exact ⟨rfl, Below.refl _ _⟩
  go_wp2_with fail
  all_goals try (go_ret; exact ⟨rfl, Below.refl _ _⟩)
  have b0 := Below.refl w'.heap.size w'
  have g0 : Reg w' none false repo := ⟨.inl ⟨rfl, rfl⟩⟩
  refine (fields_any _).mono ?_; rintro e w1 ⟨s, rfl, E1, b1⟩
  have B1 := b0.trans (b1.mono (by simp))
  have g1 := g0.below b1
  clear b0 b1 g0
  go_wp2_with fail
  refine (newEntry_any none 1 false pft _).mono ?_; rintro e w2 ⟨rfl, o, rfl⟩
  have b2 := (Below.refl w1.heap.size w1).alloc (Nat.le_refl _) o
  have B2 := B1.trans (b2.mono B1.size)
  have E2 := E1.below b2
  have g2 := g1.below b2
  clear b2 E1 g1 B1
  generalize w1.alloc o = w3 at *
  go_wp2_with fail
  refine (zz_no F s none 1 false false repo pft path _ (answers_below hF B2) E2 g2 (by simp [refused])).mono ?_; rintro e w4 ⟨rfl, b4⟩
  have B4 := B2.trans (b4.mono B2.size)
  have E4 := E2.below b4
  have g4 := g2.below b4
  clear b4 E2 g2 B2
  go_wp2_with fail
  refine (newEntry_any none 2 false pft _).mono ?_; rintro e w5 ⟨rfl, o', rfl⟩
  have b5 := (Below.refl w4.heap.size w4).alloc (Nat.le_refl _) o'
  have B5 := B4.trans (b5.mono B4.size)
  have E5 := E4.below b5
  have g5 := g4.below b5
  clear b5 E4 g4 B4
  generalize w4.alloc o' = w6 at *
  go_wp2_with fail
  refine (zz_no F s none 2 false false repo pft path _ (answers_below hF B5) E5 g5 (by simp [refused])).mono ?_; rintro e w7 ⟨rfl, b7⟩
  have B7 := B5.trans (b7.mono B5.size)
  clear b7 E5 g5 B5
  go_wp2_with fail
  go_ret
  exact ⟨by first | rfl | simp, B7⟩

set_option maxRecDepth 100000 in
set_option maxHeartbeats 3200000 in
theorem main3_ft (F : Interp) (host repo sec pft path : ByteArray) (h1 : host.size ≤ 9223372036854775807) (h2 : repo.size ≤ 9223372036854775807) (h3 : sec.size ≤ 9223372036854775807) (h4 : pft.size ≤ 9223372036854775807) (h5 : path.size ≤ 9223372036854775807)
    (w : World) (hF : F.answers w.tape) :
    Calls Tryf.prog 3 #[.bool false, .string host, .string repo, .string sec, .bool true, .string pft, .string path] w fun e w' => e = .returned (.bool true) ∧ Below w.heap.size w w' := by
  go_enter Tryf.func3, Tryf.ntmps3
  go_wp2_with fail
  refine (bytes3 false true host repo sec pft path h1 h2 h3 h4 h5 w).mono ?_; rintro e w' ⟨b, rfl, rfl⟩
  cases b
  · go_wp2_with fail
    go_ret
    exact ⟨rfl, Below.refl _ _⟩
  go_wp2_with fail
  all_goals try (go_ret; exact ⟨rfl, Below.refl _ _⟩)
  have b0 := Below.refl w'.heap.size w'
  have g0 : Reg w' none false repo := ⟨.inl ⟨rfl, rfl⟩⟩
  refine (fields_any _).mono ?_; rintro e w1 ⟨s, rfl, E1, b1⟩
  have B1 := b0.trans (b1.mono (by simp))
  have g1 := g0.below b1
  clear b0 b1 g0
  go_wp2_with fail
  refine (newEntry_any none 1 true pft _).mono ?_; rintro e w2 ⟨rfl, o, rfl⟩
  have b2 := (Below.refl w1.heap.size w1).alloc (Nat.le_refl _) o
  have B2 := B1.trans (b2.mono B1.size)
  have E2 := E1.below b2
  have g2 := g1.below b2
  clear b2 E1 g1 B1
  generalize w1.alloc o = w3 at *
  go_wp2_with fail
  refine (zz_yes F s none 1 true false repo pft path _ (answers_below hF B2) E2 g2 (by simp [refused])).mono ?_; rintro e w4 ⟨v4, rfl, b4⟩
  have B4 := B2.trans (b4.mono B2.size)
  have E4 := E2.below b4
  have g4 := g2.below b4
  clear b4 E2 g2 B2
  go_wp2_with fail
  refine (newEntry_any none 2 true pft _).mono ?_; rintro e w5 ⟨rfl, o', rfl⟩
  have b5 := (Below.refl w4.heap.size w4).alloc (Nat.le_refl _) o'
  have B5 := B4.trans (b5.mono B4.size)
  have E5 := E4.below b5
  have g5 := g4.below b5
  clear b5 E4 g4 B4
  generalize w4.alloc o' = w6 at *
  go_wp2_with fail
  refine (zz_yes F s none 2 true false repo pft path _ (answers_below hF B5) E5 g5 (by simp [refused])).mono ?_; rintro e w7 ⟨v7, rfl, b7⟩
  have B7 := B5.trans (b7.mono B5.size)
  clear b7 E5 g5 B5
  go_wp2_with fail
  go_ret
  exact ⟨by first | rfl | simp, B7⟩

set_option maxRecDepth 100000 in
set_option maxHeartbeats 3200000 in
theorem main3_tfe (F : Interp) (host repo sec pft path : ByteArray) (h1 : host.size ≤ 9223372036854775807) (h2 : repo.size ≤ 9223372036854775807) (h3 : sec.size ≤ 9223372036854775807) (h4 : pft.size ≤ 9223372036854775807) (h5 : path.size ≤ 9223372036854775807)
    (w : World) (hF : F.answers w.tape) (he : (repo.toList == []) = true) :
    Calls Tryf.prog 3 #[.bool true, .string host, .string repo, .string sec, .bool false, .string pft, .string path] w fun e w' => e = .returned (.bool true) ∧ Below w.heap.size w w' := by
  go_enter Tryf.func3, Tryf.ntmps3
  go_wp2_with fail
  refine (bytes3 true false host repo sec pft path h1 h2 h3 h4 h5 w).mono ?_; rintro e w' ⟨b, rfl, rfl⟩
  cases b
  · go_wp2_with fail
    go_ret
    exact ⟨rfl, Below.refl _ _⟩
  go_wp2_with fail
  all_goals try (go_ret; exact ⟨rfl, Below.refl _ _⟩)
  have b0 := (Below.refl w'.heap.size w').alloc (Nat.le_refl _) (.cells #[.string host, .string repo, .string sec] 25)
  have g0 : Reg (w'.alloc (.cells #[.string host, .string repo, .string sec] 25)) (some ⟨w'.heap.size, 0, none⟩) true repo := ⟨.inr ⟨rfl, _, rfl, by simp, by go_simp⟩⟩
  refine (fields_any _).mono ?_; rintro e w1 ⟨s, rfl, E1, b1⟩
  have B1 := b0.trans (b1.mono (by simp))
  have g1 := g0.below b1
  clear b0 b1 g0
  go_wp2_with fail
  refine (newEntry_any (some ⟨w'.heap.size, 0, none⟩) 1 false pft _).mono ?_; rintro e w2 ⟨rfl, o, rfl⟩
  have b2 := (Below.refl w1.heap.size w1).alloc (Nat.le_refl _) o
  have B2 := B1.trans (b2.mono B1.size)
  have E2 := E1.below b2
  have g2 := g1.below b2
  clear b2 E1 g1 B1
  generalize w1.alloc o = w3 at *
  go_wp2_with fail
  refine (zz_no F s (some ⟨w'.heap.size, 0, none⟩) 1 false true repo pft path _ (answers_below hF B2) E2 g2 (by simp only [refused, he]; rfl)).mono ?_; rintro e w4 ⟨rfl, b4⟩
  have B4 := B2.trans (b4.mono B2.size)
  have E4 := E2.below b4
  have g4 := g2.below b4
  clear b4 E2 g2 B2
  go_wp2_with fail
  refine (newEntry_any (some ⟨w'.heap.size, 0, none⟩) 2 false pft _).mono ?_; rintro e w5 ⟨rfl, o', rfl⟩
  have b5 := (Below.refl w4.heap.size w4).alloc (Nat.le_refl _) o'
  have B5 := B4.trans (b5.mono B4.size)
  have E5 := E4.below b5
  have g5 := g4.below b5
  clear b5 E4 g4 B4
  generalize w4.alloc o' = w6 at *
  go_wp2_with fail
  refine (zz_yes F s (some ⟨w'.heap.size, 0, none⟩) 2 false true repo pft path _ (answers_below hF B5) E5 g5 (by simp only [refused, he]; rfl)).mono ?_; rintro e w7 ⟨v7, rfl, b7⟩
  have B7 := B5.trans (b7.mono B5.size)
  clear b7 E5 g5 B5
  go_wp2_with fail
  go_ret
  exact ⟨by first | rfl | simp, B7⟩

set_option maxRecDepth 100000 in
set_option maxHeartbeats 3200000 in
theorem main3_tfn (F : Interp) (host repo sec pft path : ByteArray) (h1 : host.size ≤ 9223372036854775807) (h2 : repo.size ≤ 9223372036854775807) (h3 : sec.size ≤ 9223372036854775807) (h4 : pft.size ≤ 9223372036854775807) (h5 : path.size ≤ 9223372036854775807)
    (w : World) (hF : F.answers w.tape) (he : (repo.toList == []) = false) :
    Calls Tryf.prog 3 #[.bool true, .string host, .string repo, .string sec, .bool false, .string pft, .string path] w fun e w' => e = .returned (.bool true) ∧ Below w.heap.size w w' := by
  go_enter Tryf.func3, Tryf.ntmps3
  go_wp2_with fail
  refine (bytes3 true false host repo sec pft path h1 h2 h3 h4 h5 w).mono ?_; rintro e w' ⟨b, rfl, rfl⟩
  cases b
  · go_wp2_with fail
    go_ret
    exact ⟨rfl, Below.refl _ _⟩
  go_wp2_with fail
  all_goals try (go_ret; exact ⟨rfl, Below.refl _ _⟩)
  have b0 := (Below.refl w'.heap.size w').alloc (Nat.le_refl _) (.cells #[.string host, .string repo, .string sec] 25)
  have g0 : Reg (w'.alloc (.cells #[.string host, .string repo, .string sec] 25)) (some ⟨w'.heap.size, 0, none⟩) true repo := ⟨.inr ⟨rfl, _, rfl, by simp, by go_simp⟩⟩
  refine (fields_any _).mono ?_; rintro e w1 ⟨s, rfl, E1, b1⟩
  have B1 := b0.trans (b1.mono (by simp))
  have g1 := g0.below b1
  clear b0 b1 g0
  go_wp2_with fail
  refine (newEntry_any (some ⟨w'.heap.size, 0, none⟩) 1 false pft _).mono ?_; rintro e w2 ⟨rfl, o, rfl⟩
  have b2 := (Below.refl w1.heap.size w1).alloc (Nat.le_refl _) o
  have B2 := B1.trans (b2.mono B1.size)
  have E2 := E1.below b2
  have g2 := g1.below b2
  clear b2 E1 g1 B1
  generalize w1.alloc o = w3 at *
  go_wp2_with fail
  refine (zz_no F s (some ⟨w'.heap.size, 0, none⟩) 1 false true repo pft path _ (answers_below hF B2) E2 g2 (by simp only [refused, he]; rfl)).mono ?_; rintro e w4 ⟨rfl, b4⟩
  have B4 := B2.trans (b4.mono B2.size)
  have E4 := E2.below b4
  have g4 := g2.below b4
  clear b4 E2 g2 B2
  go_wp2_with fail
  refine (newEntry_any (some ⟨w'.heap.size, 0, none⟩) 2 false pft _).mono ?_; rintro e w5 ⟨rfl, o', rfl⟩
  have b5 := (Below.refl w4.heap.size w4).alloc (Nat.le_refl _) o'
  have B5 := B4.trans (b5.mono B4.size)
  have E5 := E4.below b5
  have g5 := g4.below b5
  clear b5 E4 g4 B4
  generalize w4.alloc o' = w6 at *
  go_wp2_with fail
  refine (zz_no F s (some ⟨w'.heap.size, 0, none⟩) 2 false true repo pft path _ (answers_below hF B5) E5 g5 (by simp only [refused, he]; rfl)).mono ?_; rintro e w7 ⟨rfl, b7⟩
  have B7 := B5.trans (b7.mono B5.size)
  clear b7 E5 g5 B5
  go_wp2_with fail
  go_ret
  exact ⟨by first | rfl | simp, B7⟩

set_option maxRecDepth 100000 in
set_option maxHeartbeats 3200000 in
theorem main3_tt (F : Interp) (host repo sec pft path : ByteArray) (h1 : host.size ≤ 9223372036854775807) (h2 : repo.size ≤ 9223372036854775807) (h3 : sec.size ≤ 9223372036854775807) (h4 : pft.size ≤ 9223372036854775807) (h5 : path.size ≤ 9223372036854775807)
    (w : World) (hF : F.answers w.tape) :
    Calls Tryf.prog 3 #[.bool true, .string host, .string repo, .string sec, .bool true, .string pft, .string path] w fun e w' => e = .returned (.bool true) ∧ Below w.heap.size w w' := by
  go_enter Tryf.func3, Tryf.ntmps3
  go_wp2_with fail
  refine (bytes3 true true host repo sec pft path h1 h2 h3 h4 h5 w).mono ?_; rintro e w' ⟨b, rfl, rfl⟩
  cases b
  · go_wp2_with fail
    go_ret
    exact ⟨rfl, Below.refl _ _⟩
  go_wp2_with fail
  all_goals try (go_ret; exact ⟨rfl, Below.refl _ _⟩)
  have b0 := (Below.refl w'.heap.size w').alloc (Nat.le_refl _) (.cells #[.string host, .string repo, .string sec] 25)
  have g0 : Reg (w'.alloc (.cells #[.string host, .string repo, .string sec] 25)) (some ⟨w'.heap.size, 0, none⟩) true repo := ⟨.inr ⟨rfl, _, rfl, by simp, by go_simp⟩⟩
  refine (fields_any _).mono ?_; rintro e w1 ⟨s, rfl, E1, b1⟩
  have B1 := b0.trans (b1.mono (by simp))
  have g1 := g0.below b1
  clear b0 b1 g0
  go_wp2_with fail
  refine (newEntry_any (some ⟨w'.heap.size, 0, none⟩) 1 true pft _).mono ?_; rintro e w2 ⟨rfl, o, rfl⟩
  have b2 := (Below.refl w1.heap.size w1).alloc (Nat.le_refl _) o
  have B2 := B1.trans (b2.mono B1.size)
  have E2 := E1.below b2
  have g2 := g1.below b2
  clear b2 E1 g1 B1
  generalize w1.alloc o = w3 at *
  go_wp2_with fail
  refine (zz_yes F s (some ⟨w'.heap.size, 0, none⟩) 1 true true repo pft path _ (answers_below hF B2) E2 g2 (by simp [refused])).mono ?_; rintro e w4 ⟨v4, rfl, b4⟩
  have B4 := B2.trans (b4.mono B2.size)
  have E4 := E2.below b4
  have g4 := g2.below b4
  clear b4 E2 g2 B2
  go_wp2_with fail
  refine (newEntry_any (some ⟨w'.heap.size, 0, none⟩) 2 true pft _).mono ?_; rintro e w5 ⟨rfl, o', rfl⟩
  have b5 := (Below.refl w4.heap.size w4).alloc (Nat.le_refl _) o'
  have B5 := B4.trans (b5.mono B4.size)
  have E5 := E4.below b5
  have g5 := g4.below b5
  clear b5 E4 g4 B4
  generalize w4.alloc o' = w6 at *
  go_wp2_with fail
  refine (zz_yes F s (some ⟨w'.heap.size, 0, none⟩) 2 true true repo pft path _ (answers_below hF B5) E5 g5 (by simp [refused])).mono ?_; rintro e w7 ⟨v7, rfl, b7⟩
  have B7 := B5.trans (b7.mono B5.size)
  clear b7 E5 g5 B5
  go_wp2_with fail
  go_ret
  exact ⟨by first | rfl | simp, B7⟩

theorem main3 (F : Interp) (has sp : Bool) (host repo sec pft path : ByteArray) (h1 : host.size ≤ 9223372036854775807) (h2 : repo.size ≤ 9223372036854775807) (h3 : sec.size ≤ 9223372036854775807) (h4 : pft.size ≤ 9223372036854775807) (h5 : path.size ≤ 9223372036854775807)
    (w : World) (hF : F.answers w.tape) :
    Calls Tryf.prog 3 #[.bool has, .string host, .string repo, .string sec, .bool sp, .string pft, .string path] w fun e w' => e = .returned (.bool true) ∧ Below w.heap.size w w' := by
  cases has
  · cases sp
    · exact main3_ff F host repo sec pft path h1 h2 h3 h4 h5 w hF
    · exact main3_ft F host repo sec pft path h1 h2 h3 h4 h5 w hF
  · cases sp
    · cases he : (repo.toList == [])
      · exact main3_tfn F host repo sec pft path h1 h2 h3 h4 h5 w hF he
      · exact main3_tfe F host repo sec pft path h1 h2 h3 h4 h5 w hF he
    · exact main3_tt F host repo sec pft path h1 h2 h3 h4 h5 w hF
end Go.Proofs.Qxb6613941aFmt
